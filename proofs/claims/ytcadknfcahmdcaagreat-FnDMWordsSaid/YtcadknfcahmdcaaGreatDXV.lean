/-
  The reference's reader over all words, walked. No condition beyond the bounds that each theorem states.
-/
import Derived.Test.YtcadknfcahmdcaaGreatDXU
import Derived.Test.YtcadknfcahmdcaaGreatAPZ
namespace Go.Proofs.YtcadknfcahmdcaaGreat
open Go.RowKit Go.Qz Go.Qz.DF
open Go.Qz.DV hiding val run part
set_option linter.unusedVariables false

theorem threes_suffix {mode s : Nat} {ws o rest : List Nat} (h : Threes mode s ws o rest) : ws.drop (ws.length - rest.length) = rest := by
  induction h with
  | nil => rfl
  | one => rfl
  | last => rfl
  | unl h => simp
  | @pair s a b n s' o r o' rest ha hb hn h2 hr t ih =>
    have := t.len
    rw [List.length_cons, List.length_cons, show r.length + 1 + 1 - rest.length = (r.length - rest.length) + 1 + 1 by omega, List.drop_succ_cons, List.drop_succ_cons]
    exact ih
theorem sixes_suffix {ws o rest : List Nat} (h : Sixes ws o rest) : ws.drop (ws.length - rest.length) = rest := by
  induction h with
  | short h => simp
  | @full a b c r o rest ha hb hc h t ih =>
    have := t.len
    rw [List.length_cons, List.length_cons, List.length_cons, show r.length + 1 + 1 + 1 - rest.length = (r.length - rest.length) + 1 + 1 + 1 by omega, List.drop_succ_cons, List.drop_succ_cons, List.drop_succ_cons]
    exact ih
  | @unl a b c k r ha hb hc hk h h31 =>
    rw [List.length_drop]
    congr 1
    simp only [List.length_cons]
    have : min (k + 1) 3 ≤ 3 := Nat.min_le_right _ _
    omega
set_option maxRecDepth 100000 in
/-- The bytes of a row that the call made, as a string. -/
theorem rdr_conv {w : World} {rb wb wo wc at_ : Nat} {L O : List Nat} {ov : Value} (h : Rdr w rb wb wo wc L at_ ov O) (hl : ∀ x ∈ O, x < 256) : ∃ A c, ov = .slice A O.length c ∧ ∀ k, (convert 24 9 (.slice A O.length c)).run Tryz.prog (w.drewN k) = .ok (.string (bs O)) (w.drewN k) := by
  obtain ⟨A, c, rfl, _, _, hrd⟩ := Rd.of_own h.ow
  refine ⟨A, c, rfl, fun k => ?_⟩
  have hnum : strOfNums ((List.range O.length).map fun j => ((nth O j : Nat) : Int)) = bs O := by
    unfold strOfNums bs
    congr 2
    apply List.ext_getElem
    · simp
    · intro i h1 h2
      have h3 : i < O.length := by simpa using h2
      simp [nth_eq h3]
  rcases Nat.eq_zero_or_pos O.length with h0 | h0
  · have : O = [] := List.eq_nil_of_length_eq_zero h0
    subst this
    rcases h.ow.2 with ⟨e, _⟩ | ⟨g, cap, cur, e, _⟩
    · injection e with e _ _
      subst e
      exact run_convert_bytes_nil (w.drewN k) 24 5 Tryz.underlying24 (by kernel_rfl) _ _ 9 (by kernel_rfl)
    · injection e with e _ _
      subst e
      exact run_convert_bytes_arg (w.drewN k) 24 5 Tryz.underlying24 (by kernel_rfl) g 0 _ c [] rfl (fun i hi => absurd hi (by simp)) 9 (by kernel_rfl)
  · obtain ⟨b, off, rfl, _, hc⟩ := hrd h0
    have := run_convert_bytes_arg (P := Tryz.prog) (w.drewN k) 24 5 Tryz.underlying24 (by kernel_rfl) b off O.length c ((List.range O.length).map fun j => ((nth O j : Nat) : Int)) (by simp) (fun i hi => by
      show w.cell? ⟨b, off + i, none⟩ = _
      rw [hc i hi]
      simp [bys, List.getD_eq_getElem?_getD, hi, nth_eq hi]) 9 (by kernel_rfl)
    rw [hnum] at this
    exact this
theorem append_at {P : Program} {ops : Array Oper} {rest : List Oper} {o : Oper} {a : Act} {w : World} {Q : Exit → Act → World → Prop} (s x : Operand) (t u : TypeId) (v1 v2 v : Value) (W' : World)
    (hg : o.guard = none) (ho : o.op = .call { callee := .builtin .append, args := #[s, x], argTypes := #[t, u] }) (hs : a.eval s = v1) (hx : a.eval x = v2) (hrun : (Builtin.append_ #[t, u] o.type #[v1, v2]).run P w = .ok v W')
    (h : wpList P ops Q rest (a.put o.dst v) W') : wpList P ops Q (o :: rest) a w := by
  refine wpList_plain hg fun K hK => ?_
  unfold Oper.wp execOp
  simp only [ho, resolve, invoke, builtin, Sem.run_bind, Sem.run_pure, Result.andThen_ok, List.map_toArray, List.map_cons, List.map_nil, hs, hx, hrun]
  exact hK _ _ h
set_option maxRecDepth 100000 in
/-- The header of a macro, appended to nothing. -/
theorem run_hdr (ty : TypeId) (w : World) : ∃ cap W', 7 ≤ cap ∧ cap ≤ maxLen ∧ (Builtin.append_ #[24, 9] ty #[.slice none 0 0, .string ⟨#[91, 41, 62, 30, 48, 53, 29]⟩]).run Tryz.prog w = .ok (.slice (some ⟨w.heap.size, 0, none⟩) 7 cap) W' ∧ Same w W' ∧ W'.heap.size = w.heap.size + 1 ∧ Arr W' 5 w.heap.size (bys (hdr 53) ++ List.replicate (cap - 7) (.int .u8 0)) := by
  obtain ⟨i0, hi, hz0, hz1, hz2⟩ := info_parts Tryz.infoBy
  have h := run_append_nil_string (P := Tryz.prog) (w := w) 24 9 ty 5 i0 (.int .u8 0) Tryz.underlying24 Tryz.underlying9 hi hz0 ⟨#[91, 41, 62, 30, 48, 53, 29]⟩ (by decide) (by decide) (by rw [hz2]; decide)
  refine ⟨_, _, grownCap_ge w 7 0 _, grownCap_le_maxLen w 7 0 _ (by unfold maxLen; omega), h, Mod.alloc (Mod.drewN (Mod.refl _) 1) _, by simp, ?_⟩
  have h2 := Arr.new w.drew 5 (bys (hdr 53) ++ List.replicate (grownCap w 7 0 5 - 7) (.int .u8 0))
  have e1 : (Array.map (fun b : UInt8 => Value.int .u8 (b.toNat : Int)) (ByteArray.mk #[91, 41, 62, 30, 48, 53, 29]).data) = (bys (hdr 53)).toArray := by simp [bys, hdr]
  have e2 : ∀ k, Builtin.zeroCells (Value.int .u8 0).cells k = (List.replicate k (Value.int .u8 0)).toArray := fun k => zeroCells_one _ k
  rw [e1, e2]
  rw [List.append_toArray]
  exact h2
theorem own_of_arr {w : World} {base g n cap : Nat} {e : TypeId} {xs ys : List Value} (h : Arr w e g (xs ++ ys)) (hb : base ≤ g) (hn : xs.length = n) (hc : (xs ++ ys).length = cap) (hm : cap ≤ maxLen) : w.ownsRow base e 1 (.slice (some ⟨g, 0, none⟩) n cap) n xs := by
  rw [List.length_append] at hc
  refine ⟨by omega, .inr ⟨g, cap, (xs ++ ys).toArray, rfl, hb, h, by omega, hm, by simp; omega, ?_⟩⟩
  rw [Nat.mul_one, ← hn]
  simp
theorem mac_rdr {w3 w4 : World} {rb wb wo c cap d : Nat} {L : List Nat} (hr : Rdr w3 rb wb wo c L 1 (.slice none 0 0) []) (hs4 : Same w3 w4) (hsz : w4.heap.size = w3.heap.size + 1) (hA : Arr w4 5 w3.heap.size (bys (hdr 53) ++ List.replicate (cap - 7) (.int .u8 0))) (hc7 : 7 ≤ cap) (hcm : cap ≤ maxLen) :
    (w4.cell? ⟨rb, 2, none⟩ = some (.slice none 0 0) ∧ w4.frozen? ⟨rb, 2, none⟩ = false) ∧
    ((w4.setCell ⟨rb, 2, none⟩ (.slice (some ⟨w3.heap.size, 0, none⟩) 7 cap)).cell? ⟨rb, 2, none⟩ = some (.slice (some ⟨w3.heap.size, 0, none⟩) 7 cap) ∧ (w4.setCell ⟨rb, 2, none⟩ (.slice (some ⟨w3.heap.size, 0, none⟩) 7 cap)).cell? ⟨w3.heap.size, 5, none⟩ = some (.int .u8 53) ∧ (w4.setCell ⟨rb, 2, none⟩ (.slice (some ⟨w3.heap.size, 0, none⟩) 7 cap)).frozen? ⟨w3.heap.size, 5, none⟩ = false) ∧
    Rdr ((w4.setCell ⟨rb, 2, none⟩ (.slice (some ⟨w3.heap.size, 0, none⟩) 7 cap)).setCell ⟨w3.heap.size, 5, none⟩ (.int .u8 d)) rb wb wo c L 1 (.slice (some ⟨w3.heap.size, 0, none⟩) 7 cap) (hdr d) ∧
    Step rb (.slice none 0 0) (.slice (some ⟨w3.heap.size, 0, none⟩) 7 cap) w3 ((w4.setCell ⟨rb, 2, none⟩ (.slice (some ⟨w3.heap.size, 0, none⟩) 7 cap)).setCell ⟨w3.heap.size, 5, none⟩ (.int .u8 d)) := by
  obtain ⟨g, hg⟩ : ∃ g, g = w3.heap.size := ⟨_, rfl⟩
  rw [← hg] at hA hsz ⊢
  have hrg : rb < g := by rw [hg]; exact hr.rlt
  have hr4 := hr.same hs4
  obtain ⟨v, hv⟩ : ∃ v, v = Value.slice (some ⟨g, 0, none⟩) 7 cap := ⟨_, rfl⟩
  rw [← hv]
  have hm1 := Mod.set1 w4 rb 2 v
  obtain ⟨w5, hw5⟩ : ∃ w5, w5 = w4.setCell ⟨rb, 2, none⟩ v := ⟨_, rfl⟩
  rw [← hw5] at hm1 ⊢
  have hA5 := hA.mod hm1 (fun e => by omega)
  have hr5 : Arr w5 78 rb [.slice (some ⟨wb, wo, none⟩) L.length c, .int .i64 (1 : Nat), v, .bool false] := by rw [hw5]; exact hr4.ar.set_ 2 v
  have hm2 := Mod.set1 w5 g 5 (.int .u8 d)
  obtain ⟨w6, hw6⟩ : ∃ w6, w6 = w5.setCell ⟨g, 5, none⟩ (.int .u8 d) := ⟨_, rfl⟩
  have hA6 : Arr w6 5 g (bys (hdr d) ++ List.replicate (cap - 7) (.int .u8 0)) := by
    have := hA5.set_ 5 (.int .u8 d)
    rw [hw6]
    exact this
  rw [← hw6] at hm2 ⊢
  have hlen : (bys (hdr d) ++ List.replicate (cap - 7) (Value.int .u8 0)).length = cap := by simp [bys, hdr]; omega
  refine ⟨⟨hr4.ar.cell? 2, hr4.ar.free 2⟩, ⟨hr5.cell? 2, ?_, hA5.free 5⟩, ⟨hr5.mod hm2 (fun e => by omega), fun j hj => ?_, ?_, hr.lt⟩, ⟨?_, .inr ⟨g, by rw [hv]; rfl, by rw [hg]; exact Nat.le_refl _⟩⟩⟩
  · exact hA5.cell? 5
  · have hb5 : Below rb w4 w5 := Mod.below hm1 (by omega) (fun k hk => by rw [hk]; exact Nat.le_refl _)
    have hb6 : Below rb w5 w6 := Mod.below hm2 (by have := hb5.size; omega) (fun k hk => by rw [hk]; omega)
    rw [hb6.cell hr.lt, hb5.cell hr.lt]
    exact hr4.wd j hj
  · rw [hv]
    exact own_of_arr hA6 (by omega) (by simp [bys, hdr]) hlen hcm
  · refine (((Mod.mono (S := fun _ => False) (T := fun b => b = rb ∨ (Value.slice none 0 0).ownBlock = some b) hs4 (fun _ _ h => h.elim)).then hm1 fun i hi e => .inl e).then hm2 fun i hi e => ?_)
    omega
/-- What words say. -/
def SayPost (T : List Nat) (K : Nat) (w : World) (e : Ending) (w' : World) : Prop := ∃ s : ByteArray, e = .returned (.tuple #[.string s, .int .i64 K, .bool true]) ∧ Hid (sb s = T) ∧ Below w.heap.size w w'
/-- How far the reader is. -/
def StR (L HD TR o : List Nat) (K a : Nat) (O' : List Nat) (ts : ByteArray) : Prop := ∃ o' k', Say (L.drop a) o' k' ∧ a + k' = K ∧ O' ++ o' = HD ++ o ∧ sb ts = TR ∧ a ≤ L.length
theorem say_cases {X o : List Nat} {k : Nat} (h : Say X o k) :
    (X = [] ∧ o = [] ∧ k = 0) ∨ (∃ r, X = 129 :: r ∧ o = [] ∧ k = 0) ∨ (∃ c k' r o', X = (c + 1) :: r ∧ c < 128 ∧ o = c :: o' ∧ k = k' + 1 ∧ Say r o' k') ∨
    (∃ v k' r o', X = (130 + v) :: r ∧ v < 100 ∧ o = (48 + v / 10) :: (48 + v % 10) :: o' ∧ k = k' + 1 ∧ Say r o' k') ∨
    (∃ mode k' r o1 rest o', X = latch mode :: r ∧ 1 ≤ mode ∧ mode ≤ 3 ∧ Threes mode 0 r o1 rest ∧ o = o1 ++ o' ∧ k = 1 + (r.length - rest.length) + k' ∧ Say rest o' k') ∨
    (∃ k' r o1 rest o', X = 240 :: r ∧ Sixes r o1 rest ∧ o = o1 ++ o' ∧ k = 1 + (r.length - rest.length) + k' ∧ Say rest o' k') := by
  cases h with
  | nil => exact .inl ⟨rfl, rfl, rfl⟩
  | pad => exact .inr (.inl ⟨_, rfl, rfl, rfl⟩)
  | chr h t => exact .inr (.inr (.inl ⟨_, _, _, _, rfl, h, rfl, rfl, t⟩))
  | two h t => exact .inr (.inr (.inr (.inl ⟨_, _, _, _, rfl, h, rfl, rfl, t⟩)))
  | threes h1 h3 h t => exact .inr (.inr (.inr (.inr (.inl ⟨_, _, _, _, _, _, rfl, h1, h3, h, rfl, rfl, t⟩))))
  | sixes h t => exact .inr (.inr (.inr (.inr (.inr ⟨_, _, _, _, _, rfl, h, rfl, rfl, t⟩))))
end Go.Proofs.YtcadknfcahmdcaaGreat
