/-
  What one call of an encoder makes of the main loop's state. No condition beyond the bounds that each theorem states.
-/
import Derived.Test.YtcadknfcahmdcaaGreatDXM
namespace Go.Proofs.YtcadknfcahmdcaaGreat
open Go.RowKit Go.Qz Go.Qz.DF
open Go.Qz.DV hiding val run part
set_option linter.unusedVariables false

/-- What is known of the text. -/
structure EhlOk (K : CK) (T p0 : Nat) : Prop where
  hT : T + K.skip = K.msg.length
  tr : Tr K.msg T
  len : K.msg.length ≤ 1000
  by8 : ∀ i, i < K.msg.length → nth K.msg i < 128
  sh2 : K.sh ≤ 2
  cm : 2 * T + 6 ≤ capMost K.sh
  x12 : (∃ i, p0 ≤ i ∧ i < T ∧ isS (nth K.msg i) = true) → ∀ i, p0 ≤ i → i < T → isX (nth K.msg i) = true
  edi : (∀ i, p0 ≤ i → i < T → isE (nth K.msg i) = true) ∨ ∀ j, p0 ≤ j → Runs8 (fun i => nth K.msg (j + i))
/-- The encoders and the context in memory. -/
structure Env (w0 : World) (p : Nat) (K : CK) (eb c1 c2 : Nat) (ws : List Nat) (pos : Nat) (enc : Int) (sy : Option (Nat × Nat)) (v : Value) (w : World) : Prop where
  ctx : Ctx w p K ws pos enc sy v
  arr : Arr w 53 eb [.iface 81 (.agg #[]), .iface 82 (.pointer (some ⟨c1, 0, none⟩)), .iface 82 (.pointer (some ⟨c2, 0, none⟩)), .iface 86 (.agg #[]), .iface 87 (.agg #[]), .iface 88 (.agg #[])]
  e1 : EncA w c1 1 52
  e2 : EncA w c2 2 53
  bel : Below w0.heap.size w0 w
  low : w0.heap.size ≤ K.B
section
variable {w0 w w' : World} {p : Nat} {K : CK} {eb c1 c2 : Nat} {ws ws' : List Nat} {pos pos' : Nat} {enc enc' : Int} {sy sy' : Option (Nat × Nat)} {v v' : Value}
theorem Env.step (h : Env w0 p K eb c1 c2 ws pos enc sy v w) (hc : Ctx w' p K ws' pos' enc' sy' v') (hs : Step p v v' w w') : Env w0 p K eb c1 c2 ws' pos' enc' sy' v' w' := by
  refine ⟨hc, Arr.mod h.arr hs.1 (fun e => ?_), h.e1.step h.ctx hs, h.e2.step h.ctx hs, h.bel.trans (Mod.below hs.1 h.bel.size fun k hk => ?_), h.low⟩
  · rcases e with e | e
    · exact arr_ne h.arr h.ctx.ar (by decide) e
    · exact off_ne h.ctx.cw h.arr (by decide) e
  · rcases hk with hk | hk
    · rw [hk]; exact Nat.le_trans h.low h.ctx.pb
    · obtain ⟨g, off, cap, _, hob, _, hbg, _⟩ := h.ctx.cw.block
      rw [hob] at hk; injection hk with hk; have := h.low; omega
/-- The main loop's state. -/
structure EhlSt (w0 : World) (p : Nat) (K : CK) (eb c1 c2 T p0 : Nat) (mac ws : List Nat) (pos m : Nat) (enc : Int) (sy : Option (Nat × Nat)) (v : Value) (w : World) : Prop where
  env : Env w0 p K eb c1 c2 ws pos enc sy v w
  main : Main K.sh T p0 K.msg mac ws pos m
  syk : SyOk K.sh (ws.length + (if m = 0 ∧ pos < T then 1 else 0)) sy
def meas (T pos m : Nat) : Nat := 2 * (T - pos) + (if m = 0 then 1 else 0)
def EncRes (w0 : World) (p : Nat) (K : CK) (eb c1 c2 T p0 : Nat) (mac : List Nat) (pos m : Nat) (e : Ending) (w' : World) : Prop :=
  ∃ (ws' : List Nat) (pos' m' : Nat) (enc' : Int) (sy' : Option (Nat × Nat)) (v' : Value), e = .returned .nilIface ∧ Hid (EhlSt w0 p K eb c1 c2 T p0 mac ws' pos' m' enc' sy' v' w') ∧ Hid ((enc' = -1 ∧ m' = m) ∨ enc' = m') ∧ Hid (meas T pos' m' < meas T pos m)
variable {T p0 m : Nat} {mac : List Nat}
theorem main_pos (h : Main K.sh T p0 K.msg mac ws pos m) : p0 ≤ pos := by
  rcases h with ⟨_, _, h, _⟩ | ⟨_, _, _, _, w, _, _, h, _⟩ <;> exact h
theorem stepA (hk : EhlOk K T p0) (h : EhlSt w0 p K eb c1 c2 T p0 mac ws pos 0 (-1) sy v w) (hp : pos < T) : Calls Tryz.prog 99 #[.agg #[], .pointer (some ⟨p, 0, none⟩)] w (EncRes w0 p K eb c1 c2 T p0 mac pos 0) := by
  have hT := hk.hT
  have hcb : capMost K.sh ≤ 1304 := by unfold capMost; split <;> omega
  have hcm := hk.cm
  have hb := h.main.bound
  refine (ascEncode w h.env.ctx (by omega) hk.len hk.by8 (by omega)).mono ?_
  rintro e w' ⟨v', ws', pos', enc', rfl, HC, HS, HO⟩
  rcases h.main with ⟨_, hA⟩ | ⟨h1, _⟩
  · have hbA := hA
    obtain ⟨hl, ho⟩ := hA.asc hp hk.tr hk.by8 HO.out
    have hsy := h.syk
    rw [if_pos ⟨rfl, hp⟩, ← hl] at hsy
    rcases ho with ⟨rfl, g1, g2⟩ | ⟨m', rfl, g1, g2, rfl, g3⟩
    · refine ⟨ws', pos', 0, -1, sy, v', rfl, Lib.hid ⟨h.env.step HC.out HS.out, g2, hsy.mono (by omega)⟩, Lib.hid (.inl ⟨rfl, rfl⟩), Lib.hid ?_⟩
      unfold meas; simp only [if_true]; omega
    · refine ⟨ws', pos', m', m', sy, v', rfl, Lib.hid ⟨h.env.step HC.out HS.out, g3, hsy.mono (by omega)⟩, Lib.hid (.inr rfl), Lib.hid ?_⟩
      unfold meas; rw [if_neg (by omega), if_pos rfl]; omega
  · omega
theorem meas_lt (h1 : pos < pos') (h2 : pos' ≤ T) (hm : 1 ≤ m) : meas T pos' 0 < meas T pos m := by
  unfold meas; rw [if_pos rfl, if_neg (by omega)]; omega
theorem syk_m (h : EhlSt w0 p K eb c1 c2 T p0 mac ws pos m enc sy v w) (hm : 1 ≤ m) : SyOk K.sh ws.length sy := by
  have := h.syk
  rw [if_neg (by omega)] at this
  exact this
theorem stepC (hk : EhlOk K T p0) (hm : m = 1 ∨ m = 2) (cb : Nat) (hcb : (m = 1 ∧ cb = c1) ∨ (m = 2 ∧ cb = c2)) (h : EhlSt w0 p K eb c1 c2 T p0 mac ws pos m (-1) sy v w) : Calls Tryz.prog 133 #[.pointer (some ⟨cb, 0, none⟩), .pointer (some ⟨p, 0, none⟩)] w (EncRes w0 p K eb c1 c2 T p0 mac pos m) := by
  have hT := hk.hT
  have hcm := hk.cm
  have hb := h.main.bound
  have hb2 := hb.2.2 (by omega)
  have hC : Calls Tryz.prog 133 #[.pointer (some ⟨cb, 0, none⟩), .pointer (some ⟨p, 0, none⟩)] w (C40Post p K ws pos T m v w) := by
    rcases hcb with ⟨rfl, rfl⟩ | ⟨rfl, rfl⟩
    · exact enc1 w h.env.ctx _ h.env.e1 T hT hk.len hk.by8 hk.sh2 hb2.1 (syk_m h (by omega)) hb2.2 hcm
    · exact enc2 w h.env.ctx _ h.env.e2 T hT hk.len hk.by8 hk.sh2 hb2.1 (syk_m h (by omega)) hb2.2 hcm
  refine hC.mono ?_
  rintro e w' ⟨v', tl, pos', q, L', rfl, HC, HS, HO, HL⟩
  rcases h.main with ⟨h1, _⟩ | ⟨_, _, _, _, w1, rfl, hA⟩
  · omega
  · obtain ⟨g1, g2⟩ := hA.c40 hm hb2.1 hk.sh2 hk.tr hk.by8 hcm HO.out
    have hp' := g2.bound.1
    refine ⟨_, pos', 0, 0, _, v', rfl, Lib.hid ⟨h.env.step HC.out HS.out, g2, ?_⟩, Lib.hid (.inr rfl), Lib.hid (meas_lt g1 hp' (by omega))⟩
    exact .inr ⟨q, L', rfl, by have := HL.out; rw [List.length_append]; omega⟩
theorem stepX (hk : EhlOk K T p0) (h : EhlSt w0 p K eb c1 c2 T p0 mac ws pos 3 (-1) sy v w) : Calls Tryz.prog 141 #[.agg #[], .pointer (some ⟨p, 0, none⟩)] w (EncRes w0 p K eb c1 c2 T p0 mac pos 3) := by
  have hT := hk.hT
  have hcm := hk.cm
  have hb := h.main.bound
  have hb2 := hb.2.2 (by omega)
  rcases h.main with ⟨h1, _⟩ | ⟨_, _, _, hlk, w1, hws, hA⟩
  · omega
  · have hp0 : p0 ≤ pos := hA.2.1
    have hX : ∀ i, pos ≤ i → i < T → isX (nth K.msg i) = true := look_x12 hlk hk.tr (by omega) fun ⟨i, a, b, c⟩ j ja jb => hk.x12 ⟨i, by omega, b, c⟩ j (by omega) jb
    refine (x12Encode w h.env.ctx T hT hk.len hk.by8 hX hk.sh2 hb2.1 (syk_m h (by omega)) hb2.2 hcm).mono ?_
    rintro e w' ⟨v', tl, pos', q, L', rfl, HC, HS, HO, HL⟩
    subst hws
    obtain ⟨g1, g2⟩ := hA.x12 hb2.1 hk.sh2 hk.tr (fun i a b => ⟨hk.by8 i (by omega), hX i a b⟩) hcm HO.out
    have hp' := g2.bound.1
    refine ⟨_, pos', 0, 0, _, v', rfl, Lib.hid ⟨h.env.step HC.out HS.out, g2, ?_⟩, Lib.hid (.inr rfl), Lib.hid (meas_lt g1 hp' (by omega))⟩
    exact .inr ⟨q, L', rfl, by have := HL.out; rw [List.length_append]; omega⟩
theorem stepE (hk : EhlOk K T p0) (h : EhlSt w0 p K eb c1 c2 T p0 mac ws pos 4 (-1) sy v w) : Calls Tryz.prog 146 #[.agg #[], .pointer (some ⟨p, 0, none⟩)] w (EncRes w0 p K eb c1 c2 T p0 mac pos 4) := by
  have hT := hk.hT
  have hcm := hk.cm
  have hb := h.main.bound
  have hb2 := hb.2.2 (by omega)
  rcases h.main with ⟨h1, _⟩ | ⟨_, _, _, hlk, w1, hws, hA⟩
  · omega
  · have hp0 : p0 ≤ pos := hA.2.1
    obtain ⟨lim, l1, l2, l3⟩ := look_edi hlk hk.tr (by omega) (by
      rcases hk.edi with g | g
      · exact .inl fun i a b => g i (by omega) b
      · exact .inr fun j a => g j (by omega))
    refine (ediEncode w h.env.ctx T lim hT hk.len hk.by8 l1 l2 l3 hk.sh2 hb2.1 (syk_m h (by omega)) hb2.2 hcm).mono ?_
    rintro e w' ⟨v', tl, pos', L', sy', rfl, HC, HS, HY, HO, HL⟩
    subst hws
    obtain ⟨g1, g2⟩ := hA.edi hb2.1 hk.sh2 hk.tr hcm HO.out
    have hp' := g2.bound.1
    refine ⟨_, pos', 0, 0, _, v', rfl, Lib.hid ⟨h.env.step HC.out HS.out, g2, HY.out.mono ?_⟩, Lib.hid (.inr rfl), Lib.hid (meas_lt g1 hp' (by omega))⟩
    have := HL.out
    rw [List.length_append]
    split
    · omega
    · rename_i hno
      have : pos' = T := by omega
      omega
end
end Go.Proofs.YtcadknfcahmdcaaGreat
