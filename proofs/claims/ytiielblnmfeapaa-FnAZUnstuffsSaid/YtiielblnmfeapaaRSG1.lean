/-
  EvaluateAt, MultiplyBy, GetSize, GetOne, NewReedSolomonDecoder, walked. No condition beyond the bounds that each theorem states.
-/
import Derived.Test.YtiielblnmfeapaaRSE4
import Derived.Test.YtiielblnmfeapaaGFV
import Derived.Deep.RegionHeld3
namespace Go.Proofs.Ytiielblnmfeapaa
open Go.RowKit Go.Qz Go.Qz.RS
set_option linter.unusedVariables false

set_option maxRecDepth 100000 in
theorem gfSize (Q : Nat → Prop) (F : Fld) (f : Nat) (w : World) (h : GFQ w Q f F) :
    Calls Try.prog 79 #[.pointer (some ⟨f, 0, none⟩)] w fun e w' => e = .returned (.int .i64 F.size) ∧ w = w' := by
  obtain ⟨eb, lb, z, c0, c1, _, c4, he, hl, _⟩ := gfq_cells h
  clear h c0 c1 he hl
  go_enter Try.func79, Try.ntmps79
  go_wp2_with fail
  go_ret
  exact ⟨rfl, rfl⟩
def OnePost (w : World) (Q : Nat → Prop) (f : Nat) (e : Ending) (w' : World) : Prop := ∃ o, e = .returned (.pointer (some ⟨o, 0, none⟩)) ∧ PolyQ w Q o f [1] ∧ w = w'
set_option maxRecDepth 100000 in
theorem gfOne (Q : Nat → Prop) (F : Fld) (f : Nat) (w : World) (h : GFQ w Q f F) :
    Calls Try.prog 72 #[.pointer (some ⟨f, 0, none⟩)] w (OnePost w Q f) := by
  obtain ⟨⟨eb, lb, z, o, h1, _, _, _, _, _, ho⟩, _⟩ := h
  have hc : w.cell? ⟨f, 3, none⟩ = some (.pointer (some ⟨o, 0, none⟩)) := by rw [cell_of_row w f 3 _ _ _ h1]; rfl
  have HO := Lib.hid ho
  clear h1 ho
  go_enter Try.func72, Try.ntmps72
  go_wp2_with fail
  go_ret
  exact ⟨o, rfl, HO.out, rfl⟩

theorem El.take {F : Fld} (h : Six F) {l : List Nat} (hl : El F l) (k : Nat) : El F (l.take k) := fun j => by
  have hs := h.bounds
  by_cases hj : j < (l.take k).length
  · rw [nth_eq hj, List.getElem_take]
    have := hl j
    rw [nth_eq (by simp at hj; omega)] at this
    exact this
  · rw [nth_past (by omega)]; omega
set_option maxRecDepth 100000 in
set_option maxHeartbeats 3200000 in
theorem polyAt (Q : Nat → Prop) (F : Fld) (hF : Six F) (p f a : Nat) (A : Int) (hA : A = a) (l : List Nat) (ha : a < F.size) (ha0 : a ≠ 0) (hl : El F l) (hn : l.length < 10000) (w : World) (h : PolyQ w Q p f l) (hg : GFQ w Q f F) :
    Calls Try.prog 56 #[.pointer (some ⟨p, 0, none⟩), .int .i64 A] w fun e w' => e = .returned (.int .i64 (ev F l a : Nat)) ∧ ∃ n, w' = w.drewN n := by
  subst hA
  have hs := hF.bounds
  have HGG := Lib.hid hg
  obtain ⟨⟨cb, off, cap, h1, h2, h3, h4, h5⟩, hp, hne⟩ := h
  have c0 : w.cell? ⟨p, 0, none⟩ = some (.pointer (some ⟨f, 0, none⟩)) := by rw [cell_of_row w p 0 _ _ _ h1]; rfl
  have c1 : w.cell? ⟨p, 1, none⟩ = some (.slice (some ⟨cb, off, none⟩) l.length cap) := by rw [cell_of_row w p 1 _ _ _ h1]; rfl
  have hpos := List.length_pos_iff.2 hne
  have H5 := Lib.hid h5
  have HL := Lib.hid hl
  have HST : Hid (∀ k, k < l.length → ev F (l.take (k + 1)) a = mul F a (ev F (l.take k) a) ^^^ nth l k) := Lib.hid (fun k hk => by rw [take_nth hk, ev_snoc hF (El.take hF hl k) (hl k) ha])
  have HEL : Hid (∀ k, ev F (l.take k) a < F.size) := Lib.hid (fun k => ev_lt hF (El.take hF hl k) a)
  have HEND : Hid (ev F (l.take l.length) a = ev F l a) := Lib.hid (by rw [List.take_length])
  have c5 := h5 0 hpos
  rw [Nat.add_zero] at c5
  clear h1 h5 hg hl
  have ha1 : ((a : Int) == 0) = false := by simpa using ha0
  by_cases h11 : a = 1
  · subst h11
    rw [show ((1 : Nat) : Int) = 1 from rfl] at ha1 ⊢
    go_enter Try.func56, Try.ntmps56
    go_wp2_with fail
    go_loop [5, 22] (fun r i => ∃ k : Nat, k ≤ l.length ∧ i = .int .i64 k ∧ r = .int .i64 (ev F (l.take k) 1 : Nat)) (fun _ i => l.length - (intOf i).toNat)
    case atStart => exact ⟨0, by omega, rfl, rfl⟩
    case round =>
      obtain ⟨k, hk, rfl, rfl⟩ := hrel
      clear c5
      by_cases hlt : k < l.length
      · have hlt1 : (k : Int) < (l.length : Int) := by omega
        have cz := H5.out k hlt
        have hst := HST.out k hlt
        have hel := HEL.out k
        rw [one_mul hF hel] at hst
        obtain ⟨x, hx⟩ : ∃ x, x = ev F (l.take k) 1 := ⟨_, rfl⟩
        obtain ⟨y, hy⟩ : ∃ y, y = ev F (l.take (k + 1)) 1 := ⟨_, rfl⟩
        have hcl := HL.out k
        obtain ⟨c, hc⟩ : ∃ c, c = nth l k := ⟨_, rfl⟩
        rw [← hc] at cz hst hcl
        rw [← hx] at hst hel ⊢
        rw [← hy] at hst
        have HXA := Lib.hid (fun W => gfAdd x c y hst.symm (by omega) (by omega) W)
        have HY : Hid (ev F (l.take (k + 1)) 1 = y) := Lib.hid hy.symm
        clear hst hx hy hc
        go_wp2_with fail
        refine (HXA.out _).mono ?_
        rintro e w1 ⟨rfl, rfl⟩
        go_wp2_with fail
        go_round
        case rel => exact ⟨k + 1, by omega, by go_num, by rw [HY.out]⟩
        case measure => simp [intOf]; omega
      · obtain rfl : k = l.length := by omega
        rw [HEND.out]
        go_wp2_with fail
        go_ret
        exact ⟨rfl, 0, rfl⟩
  · have ha2 : ((a : Int) == 1) = false := by simp; omega
    have HONE : Hid (ev F (l.take 1) a = nth l 0) := Lib.hid (by
      have e := HST.out 0 hpos
      rw [Nat.zero_add] at e
      rw [e]
      show mul F a 0 ^^^ _ = _
      rw [mul_zero hF ha, Nat.zero_xor])
    clear ha0 h11
    go_enter Try.func56, Try.ntmps56
    go_wp2_with fail
    clear c5
    go_loopw [8, 10] (fun r i wr => ∃ k m : Nat, 1 ≤ k ∧ k ≤ l.length ∧ i = .int .i64 k ∧ r = .int .i64 (ev F (l.take k) a : Nat) ∧ wr = w.drewN m) (fun _ i _ => l.length - (intOf i).toNat)
    case atStart => exact ⟨1, 0, by omega, by omega, rfl, by rw [HONE.out], rfl⟩
    case round =>
      obtain ⟨k, m, hk1, hk, rfl, rfl, hwr⟩ := hrel
      have b0 : wr.cell? ⟨p, 0, none⟩ = some (.pointer (some ⟨f, 0, none⟩)) := by rw [hwr]; exact c0
      have b1 : wr.cell? ⟨p, 1, none⟩ = some (.slice (some ⟨cb, off, none⟩) l.length cap) := by rw [hwr]; exact c1
      have HGW : Hid (GFQ wr Q f F) := Lib.hid (by rw [hwr]; exact HGG.out.drewN _)
      have HWR := Lib.hid hwr
      by_cases hlt : k < l.length
      · have hlt1 : (k : Int) < (l.length : Int) := by omega
        have hk0 : (0 : Int) ≤ (k : Int) := by omega
        have cz : wr.cell? ⟨cb, off + k, none⟩ = some (.int .i64 (nth l k : Nat)) := by rw [hwr]; exact H5.out k hlt
        have hst := HST.out k hlt
        have hel := HEL.out k
        clear hwr
        obtain ⟨x, hx⟩ : ∃ x, x = ev F (l.take k) a := ⟨_, rfl⟩
        obtain ⟨y, hy⟩ : ∃ y, y = ev F (l.take (k + 1)) a := ⟨_, rfl⟩
        have hcl := HL.out k
        obtain ⟨c, hc⟩ : ∃ c, c = nth l k := ⟨_, rfl⟩
        rw [← hc] at cz hst hcl
        rw [← hx] at hst hel ⊢
        rw [← hy] at hst
        have hml := mul_lt hF (b := x) ha
        have HMU := Lib.hid (fun W hW => gfMul Q F hF f a x ha hel W hW)
        obtain ⟨t, ht⟩ : ∃ t, t = mul F a x := ⟨_, rfl⟩
        rw [← ht] at HMU hst hml
        have HXA := Lib.hid (fun W => gfAdd t c y hst.symm (by omega) (by omega) W)
        have HY : Hid (ev F (l.take (k + 1)) a = y) := Lib.hid hy.symm
        clear hst hx hy hc ht
        go_wp2_with fail
        go_quiet ((first | (go_at_call 69; exact quietN (HMU.out _ (HGW.out.drewN _))) | (go_at_call 65; exact quietL (HXA.out _))))
        go_wp2_with fail
        go_roundw
        case rel => exact ⟨k + 1, _, by omega, by omega, by go_num, by rw [HY.out], by rw [HWR.out, World.drewN_drewN]⟩
        case measure => simp [intOf]; omega
      · obtain rfl : k = l.length := by omega
        rw [HEND.out]
        clear hwr
        go_wp2_with fail
        go_ret
        exact ⟨rfl, m, HWR.out⟩
end Go.Proofs.Ytiielblnmfeapaa
