/-
  What a decoder says, as plain data: DecoderResult and impl.decoded. No condition beyond the bounds that each theorem states.
-/
import Derived.Test.YthkiajighmhdoaaCPM
import Derived.Test.YthkiajighmhdoaaRows
import Derived.Great.Walk
namespace Go.Proofs.Ythkiajighmhdoaa
open Go.RowKit Go.Qz
set_option linter.unusedVariables false

theorem Try.infoU8DC : (Try.prog.info? 5).map (fun i => (i.zero, i.size, i.bytes)) = some (some (.int .u8 0), 1, 1) := by kernel_rfl
theorem results_cellD {P : Program} {fn : Func} {p q : Tmp} {ty tq : TypeId} (h : fn.results = #[.cell p ty, .tmp q]) (tmps : Array Value) (w : World) (g1 : Nat) (t : TypeId) (c1 : Array Value) (d : TypeDesc)
    (hp : tmps.getD p undef = .pointer (some ⟨g1, 0, none⟩)) (hg1 : w.heap[g1]? = some (.cells c1 t (0, 0)))
    (hu : P.underlying ty = some d) (hd : (match d with | .struct _ | .array _ _ => true | _ => false) = true) (hi1 : (P.info? ty).map (·.size) = some c1.size) :
    (results fn tmps).run P w = .ok (.tuple #[.agg c1, tmps.getD q undef]) w := by
  have hp' : tmps[p]?.getD undef = .pointer (some ⟨g1, 0, none⟩) := by simpa using hp
  simp [results, h, hp', asAddr, run_loadVar_row w g1 t ty c1 (0, 0) d hg1 hu hd hi1]
/-- A decoder's result in memory. -/
structure DR (w : World) (p : Nat) (raw : Value) (nb : Value) (text : ByteArray) (segs : Value) (level : ByteArray) (err era : Int) (oth : Value) (par seq mod : Int) : Prop where
  ar : Arr w 144 p [raw, nb, .string text, segs, .string level, .int .i64 err, .int .i64 era, oth, .int .i64 par, .int .i64 seq, .int .i64 mod]
variable {raw nb segs oth : Value} {text level : ByteArray} {err era par seq mod : Int}
theorem DR.below {w w' : World} {p : Nat} (h : DR w p raw nb text segs level err era oth par seq mod) (hb : Below w.heap.size w w') : DR w' p raw nb text segs level err era oth par seq mod := ⟨h.ar.below hb h.ar.lt⟩
set_option maxRecDepth 100000 in
theorem drText (p : Nat) (w : World) (h : DR w p raw nb text segs level err era oth par seq mod) : Calls Try.prog 44 #[.pointer (some ⟨p, 0, none⟩)] w fun e w' => e = .returned (.string text) ∧ w = w' := by
  have c := h.ar.cell? 2
  simp only [List.getElem?_cons_zero, List.getElem?_cons_succ] at c
  clear h
  go_enter Try.func44, Try.ntmps44
  go_wp2_with fail
  go_ret
  exact ⟨rfl, rfl⟩
set_option maxRecDepth 100000 in
theorem drRaw (p : Nat) (w : World) (h : DR w p raw nb text segs level err era oth par seq mod) : Calls Try.prog 45 #[.pointer (some ⟨p, 0, none⟩)] w fun e w' => e = .returned (raw) ∧ w = w' := by
  have c := h.ar.cell? 0
  simp only [List.getElem?_cons_zero] at c
  clear h
  go_enter Try.func45, Try.ntmps45
  go_wp2_with fail
  go_ret
  exact ⟨rfl, rfl⟩
set_option maxRecDepth 100000 in
theorem drSegs (p : Nat) (w : World) (h : DR w p raw nb text segs level err era oth par seq mod) : Calls Try.prog 43 #[.pointer (some ⟨p, 0, none⟩)] w fun e w' => e = .returned (segs) ∧ w = w' := by
  have c := h.ar.cell? 3
  simp only [List.getElem?_cons_zero, List.getElem?_cons_succ] at c
  clear h
  go_enter Try.func43, Try.ntmps43
  go_wp2_with fail
  go_ret
  exact ⟨rfl, rfl⟩
set_option maxRecDepth 100000 in
theorem drLevel (p : Nat) (w : World) (h : DR w p raw nb text segs level err era oth par seq mod) : Calls Try.prog 46 #[.pointer (some ⟨p, 0, none⟩)] w fun e w' => e = .returned (.string level) ∧ w = w' := by
  have c := h.ar.cell? 4
  simp only [List.getElem?_cons_zero, List.getElem?_cons_succ] at c
  clear h
  go_enter Try.func46, Try.ntmps46
  go_wp2_with fail
  go_ret
  exact ⟨rfl, rfl⟩
set_option maxRecDepth 100000 in
theorem drErrs (p : Nat) (w : World) (h : DR w p raw nb text segs level err era oth par seq mod) : Calls Try.prog 47 #[.pointer (some ⟨p, 0, none⟩)] w fun e w' => e = .returned (.int .i64 err) ∧ w = w' := by
  have c := h.ar.cell? 5
  simp only [List.getElem?_cons_zero, List.getElem?_cons_succ] at c
  clear h
  go_enter Try.func47, Try.ntmps47
  go_wp2_with fail
  go_ret
  exact ⟨rfl, rfl⟩
set_option maxRecDepth 100000 in
theorem drSeq (p : Nat) (w : World) (h : DR w p raw nb text segs level err era oth par seq mod) : Calls Try.prog 48 #[.pointer (some ⟨p, 0, none⟩)] w fun e w' => e = .returned (.int .i64 seq) ∧ w = w' := by
  have c := h.ar.cell? 9
  simp only [List.getElem?_cons_zero, List.getElem?_cons_succ] at c
  clear h
  go_enter Try.func48, Try.ntmps48
  go_wp2_with fail
  go_ret
  exact ⟨rfl, rfl⟩
set_option maxRecDepth 100000 in
theorem drPar (p : Nat) (w : World) (h : DR w p raw nb text segs level err era oth par seq mod) : Calls Try.prog 49 #[.pointer (some ⟨p, 0, none⟩)] w fun e w' => e = .returned (.int .i64 par) ∧ w = w' := by
  have c := h.ar.cell? 8
  simp only [List.getElem?_cons_zero, List.getElem?_cons_succ] at c
  clear h
  go_enter Try.func49, Try.ntmps49
  go_wp2_with fail
  go_ret
  exact ⟨rfl, rfl⟩
set_option maxRecDepth 100000 in
theorem drMod (p : Nat) (w : World) (h : DR w p raw nb text segs level err era oth par seq mod) : Calls Try.prog 50 #[.pointer (some ⟨p, 0, none⟩)] w fun e w' => e = .returned (.int .i64 mod) ∧ w = w' := by
  have c := h.ar.cell? 10
  simp only [List.getElem?_cons_zero, List.getElem?_cons_succ] at c
  clear h
  go_enter Try.func50, Try.ntmps50
  go_wp2_with fail
  go_ret
  exact ⟨rfl, rfl⟩

def zD : List Value := [.string ⟨#[]⟩, .slice none 0 0, .slice none 0 0, .string ⟨#[]⟩, .int .i64 0, .int .i64 0, .int .i64 0, .int .i64 0]
theorem infoD : (Try.prog.info? 34).map (·.size) = some 8 := by kernel_rfl
/-- The text of what is said, and that all went well. -/
def SaidPost (text : ByteArray) (w : World) (e : Ending) (w' : World) : Prop :=
  ∃ r sg lv a b c d, e = .returned (.tuple #[.agg #[.string text, r, sg, lv, a, b, c, d], .bool true]) ∧ (#[.string text, r, sg, lv, a, b, c, d] : Array Value).all (·.oneCell') = true ∧ Below w.heap.size w w'
theorem one8 (t : ByteArray) (A : Option Addr) (n c : Nat) (sg : Value) (hs : sg.oneCell' = true) (l : ByteArray) (a b c' d : Int) : (#[.string t, .slice A n c, sg, .string l, .int .i64 a, .int .i64 b, .int .i64 c', .int .i64 d] : Array Value).all (·.oneCell') = true := by
  simp [hs]; exact ⟨rfl, rfl, rfl, rfl, rfl, rfl, rfl⟩
set_option maxRecDepth 100000 in
set_option maxHeartbeats 6400000 in
theorem decodedNil (A : Option Addr) (n k : Nat) (f : Nat → Int) (hn : n < 1000000) (p : Nat) (w : World) (h : DR w p (.slice A n k) nb text (.slice none 0 0) level err era oth par seq mod) (hr : Rd w A n (fun j => .int .u8 (f j))) :
    Calls Try.prog 25 #[.pointer (some ⟨p, 0, none⟩), .nilIface] w (SaidPost text w) := by
  have hneq : ∀ W, (binOp .neq 60 .nilIface .nilIface).run Try.prog W = .ok (.bool false) W := fun W => rfl
  have hb0 : Below w.heap.size w (w.alloc (.cells zD.toArray 34)) := (Below.refl _ _).alloc (Nat.le_refl _) _
  have hZ := Arr.new w 34 zD
  obtain ⟨W1, hW1⟩ : ∃ W1, W1 = w.alloc (.cells zD.toArray 34) := ⟨_, rfl⟩
  rw [← hW1] at hb0 hZ
  unfold zD at hW1
  obtain ⟨E, hE⟩ : ∃ E, E = w.heap.size := ⟨_, rfl⟩
  rw [← hE] at hZ
  have HR := Lib.hid (hr.below hb0)
  have HD := Lib.hid (h.below hb0)
  have HB0 := Lib.hid hb0
  have HZ := Lib.hid hZ
  have HE := Lib.hid hE
  have HSG := Lib.hid (drSegs p W1 HD.out)
  clear hr h hb0 hZ
  go_enter Try.func25, Try.ntmps25
  go_wp2_with fail
  rw [← hW1, ← hE]
  clear hW1 hE
  refine HSG.out.mono ?_
  rintro e w1 ⟨rfl, rfl⟩
  clear HSG
  go_wp2_with fail
  go_loopw [6, 8, 15] (fun sg s i wr => sg = .slice none 0 0 ∧ i = .int .i64 0 ∧ W1 = wr) (fun _ _ _ _ => 0)
  case atStart => exact ⟨rfl, rfl, rfl⟩
  case round =>
    obtain ⟨rfl, rfl, rfl⟩ := hrel
    have HT := Lib.hid (drText p W1 HD.out)
    have HRW := Lib.hid (drRaw p W1 HD.out)
    go_wp2_with fail
    refine HT.out.mono ?_
    rintro e w1 ⟨rfl, rfl⟩
    go_wp2_with fail
    refine HRW.out.mono ?_
    rintro e w1 ⟨rfl, rfl⟩
    go_wp2_with (at_builtin; refine wpList_copyTo _ _ 30 W1.heap.size 5 (.int .u8 0) 1 _ 0 [] _ _ _ _ rfl rfl rfl rfl Try.underlying30 Try.infoU8DC rfl (fun j _ => rfl) (by decide) (World.ownsRow_nil _ _ _ _) HR.out (by omega) (Nat.le_refl _) ?_)
    intro v w2 hown hg hb
    obtain ⟨A2, c2, rfl, _⟩ := Rd.of_own hown
    have HD2 := Lib.hid (HD.out.below hb)
    have HZ2 := Lib.hid (HZ.out.below hb HZ.out.lt)
    have HB2 : Hid (Below w.heap.size w w2) := Lib.hid (HB0.out.trans (hb.mono HB0.out.size))
    have HL := Lib.hid (drLevel p w2 HD2.out)
    have HER := Lib.hid (drErrs p w2 HD2.out)
    have HSQ := Lib.hid (drSeq p w2 HD2.out)
    have HPA := Lib.hid (drPar p w2 HD2.out)
    have HMD := Lib.hid (drMod p w2 HD2.out)
    clear hown hg hb HT HRW HD HZ HR HB0
    go_wp2_with fail
    refine HL.out.mono ?_
    rintro e w1 ⟨rfl, rfl⟩
    go_wp2_with fail
    refine HER.out.mono ?_
    rintro e w1 ⟨rfl, rfl⟩
    go_wp2_with fail
    refine HSQ.out.mono ?_
    rintro e w1 ⟨rfl, rfl⟩
    go_wp2_with fail
    refine HPA.out.mono ?_
    rintro e w1 ⟨rfl, rfl⟩
    go_wp2_with fail
    refine HMD.out.mono ?_
    rintro e w1 ⟨rfl, rfl⟩
    clear HL HER HSQ HPA HMD
    go_wp2_with (refine wpList_store_row rfl 34 (.tmp 4) (.tmp 41) rfl E #[.string text, .slice A2 n c2, .slice none 0 0, .string level, .int .i64 err, .int .i64 seq, .int .i64 par, .int .i64 mod] rfl rfl 34 _ HZ2.out infoD rfl (one8 _ _ _ _ _ rfl _ _ _ _ _) ?_)
    have hA := setRow_heap w2 E _ #[.string text, .slice A2 n c2, .slice none 0 0, .string level, .int .i64 err, .int .i64 seq, .int .i64 par, .int .i64 mod] _ _ HZ2.out
    have hM : Below w.heap.size w (w2.setRow E #[.string text, .slice A2 n c2, .slice none 0 0, .string level, .int .i64 err, .int .i64 seq, .int .i64 par, .int .i64 mod]) := HB2.out.trans ((Mod.setRow w2 E _).below HB2.out.size (fun k hk => by rw [hk, HE.out]; exact Nat.le_refl _))
    go_wp2_with fail
    refine bodyPost_ret (v := .tuple #[.agg #[.string text, .slice A2 n c2, .slice none 0 0, .string level, .int .i64 err, .int .i64 seq, .int .i64 par, .int .i64 mod], .bool true]) (results_cellD (p := 4) (q := 5) (ty := 34) (tq := 4) (by kernel_rfl) _ _ E 34 _ _ rfl hA Try.underlying34 rfl infoD) rfl ?_
    exact ⟨_, _, _, _, _, _, _, rfl, one8 _ _ _ _ _ rfl _ _ _ _ _, hM⟩
end Go.Proofs.Ythkiajighmhdoaa
