/-
  No cell of these rows narrows 'for every input' (looked for: loops, veiled, ifaces, maps, wideKeys, modest, calm, conditions, laid).
  DERIVED. THE GIVEN ROWS OF THIS SEAT. 4 by the template 'for every input the law returns true; each argument reads behind the call as it read before'; 0 by the template 'total and deterministic' (their statements: YtcfcbcjaiplllaaTotals.lean).
  GIVEN WITH THE SEED: the statements are not yours to turn. If you find one false, say at which input.
  Laid BY PROGRAM, IN A SANDBOX (cutbox-rows.mjs): the forced cells as the released guide's own fill.sh prints them over the translation 7ad254acc19776df… (all of the seat's roots in one cut). By AI agents, Wed Nov 11 2026. No macro, syntax, notation, axiom, sorry.
-/
import Derived.Test.YtcfcbcjaiplllaaChecked
import GoSem.Claim
import GoSem.ClaimJoined
import GoSem.ClaimMapViews
import Derived.JoinedTies
import Derived.KernelRfl
namespace Go.Proofs.Ytcfcbcjaiplllaa
/- THE CELL 'sum', in the pinned program and in every row, IS THE sha256 OF THE DUMP (.gsa) THAT YtcfcbcjaiplllaaProg.lean LOADS. Nothing in Lean hashes anything: it is a label: what it is worth is what the hold of that sum in a sandbox is worth. -/
noncomputable def Try.pinned : Pinned := { name := "ytcfcbcjaiplllaa", sum := "7ad254acc19776dfe513b88b0bcf5b3cca323c0736525088ca2e277d7b1b10b9", checked := Try.checked }
namespace Rows
def none {H : Type} : Left H := { results := [], args := [] }

/-- 'laws.FnBIRanges': WHATEVER THE INPUT: true; the input reads as it did. -/
def fnBIRangesSpec : ChangeSpec := { name := "fnBIRanges", fn := fun _ => fun
  | [d1, d2, d3, d4] => { results := [.lit (.bool true)], args := [d1, d2, d3, d4] }
  | _ => none }
def fnBIRangesRow : OpenClaim := { program := "ytcfcbcjaiplllaa", sum := "7ad254acc19776dfe513b88b0bcf5b3cca323c0736525088ca2e277d7b1b10b9", func := "given.example/pub-quietzone/laws.FnBIRanges", spec := "fnBIRanges", apart := false }
def FnBIRangesSaid : Prop := fnBIRangesRow.holds Try.pinned (OpenSpec.ofChange fnBIRangesSpec)

/-- ITS FALSE NEIGHBOUR: 'it returns false'. Refute it at one input. -/
def fnBIRangesWrong : ChangeSpec := { name := "fnBIRanges", fn := fun _ => fun
  | [d1, d2, d3, d4] => { results := [.lit (.bool false)], args := [d1, d2, d3, d4] }
  | _ => none }
def FnBIRangesWrongFalsely : Prop := fnBIRangesRow.holds Try.pinned (OpenSpec.ofChange fnBIRangesWrong)

/-- 'laws.FnBIRows': WHATEVER THE INPUT: true; the input reads as it did. -/
def fnBIRowsSpec : ChangeSpec := { name := "fnBIRows", fn := fun _ => fun
  | [d1, d2, d3, d4] => { results := [.lit (.bool true)], args := [d1, d2, d3, d4] }
  | _ => none }
def fnBIRowsRow : OpenClaim := { program := "ytcfcbcjaiplllaa", sum := "7ad254acc19776dfe513b88b0bcf5b3cca323c0736525088ca2e277d7b1b10b9", func := "given.example/pub-quietzone/laws.FnBIRows", spec := "fnBIRows", apart := false }
def FnBIRowsSaid : Prop := fnBIRowsRow.holds Try.pinned (OpenSpec.ofChange fnBIRowsSpec)

/-- ITS FALSE NEIGHBOUR: 'it returns false'. Refute it at one input. -/
def fnBIRowsWrong : ChangeSpec := { name := "fnBIRows", fn := fun _ => fun
  | [d1, d2, d3, d4] => { results := [.lit (.bool false)], args := [d1, d2, d3, d4] }
  | _ => none }
def FnBIRowsWrongFalsely : Prop := fnBIRowsRow.holds Try.pinned (OpenSpec.ofChange fnBIRowsWrong)

/-- 'laws.FnBIGrids': WHATEVER THE INPUT: true; the input reads as it did. -/
def fnBIGridsSpec : ChangeSpec := { name := "fnBIGrids", fn := fun _ => fun
  | [d1, d2, d3, d4] => { results := [.lit (.bool true)], args := [d1, d2, d3, d4] }
  | _ => none }
def fnBIGridsRow : OpenClaim := { program := "ytcfcbcjaiplllaa", sum := "7ad254acc19776dfe513b88b0bcf5b3cca323c0736525088ca2e277d7b1b10b9", func := "given.example/pub-quietzone/laws.FnBIGrids", spec := "fnBIGrids", apart := false }
def FnBIGridsSaid : Prop := fnBIGridsRow.holds Try.pinned (OpenSpec.ofChange fnBIGridsSpec)

/-- ITS FALSE NEIGHBOUR: 'it returns false'. Refute it at one input. -/
def fnBIGridsWrong : ChangeSpec := { name := "fnBIGrids", fn := fun _ => fun
  | [d1, d2, d3, d4] => { results := [.lit (.bool false)], args := [d1, d2, d3, d4] }
  | _ => none }
def FnBIGridsWrongFalsely : Prop := fnBIGridsRow.holds Try.pinned (OpenSpec.ofChange fnBIGridsWrong)

/-- 'laws.FnBISplit': WHATEVER THE INPUT: true; the input reads as it did. -/
def fnBISplitSpec : ChangeSpec := { name := "fnBISplit", fn := fun _ => fun
  | [d1, d2] => { results := [.lit (.bool true)], args := [d1, d2] }
  | _ => none }
def fnBISplitRow : OpenClaim := { program := "ytcfcbcjaiplllaa", sum := "7ad254acc19776dfe513b88b0bcf5b3cca323c0736525088ca2e277d7b1b10b9", func := "given.example/pub-quietzone/laws.FnBISplit", spec := "fnBISplit", apart := false }
def FnBISplitSaid : Prop := fnBISplitRow.holds Try.pinned (OpenSpec.ofChange fnBISplitSpec)

/-- ITS FALSE NEIGHBOUR: 'it returns false'. Refute it at one input. -/
def fnBISplitWrong : ChangeSpec := { name := "fnBISplit", fn := fun _ => fun
  | [d1, d2] => { results := [.lit (.bool false)], args := [d1, d2] }
  | _ => none }
def FnBISplitWrongFalsely : Prop := fnBISplitRow.holds Try.pinned (OpenSpec.ofChange fnBISplitWrong)

/- THE SECOND FORM. 'bulk': how many values and letters a reading holds, each counted each time it is reached (what is shared counts as often as it is met; a slice's spare places count too). A statement '..UptoSaid' is the law's where the arguments, and the package variables that the reading takes, are together of bulk at most 1048576: NARROWER than '..Said'. Prove '..Said' where nothing that the law and all that it calls make is longer than what came in: it says more and counts as full. Else prove '..UptoSaid'. A law counts once. -/
mutual
def uptoBulk {H : Type} : DataW H → Nat
  | .lit (.string bytes) => bytes.length + 1
  | .lit _ => 1
  | .nil => 1
  | .ptr d => uptoBulk d + 1
  | .slice elems spare => uptoBulkAll elems + uptoBulkAll spare + 1
  | .agg parts => uptoBulkAll parts + 1
  | .iface _ d => uptoBulk d + 1
  | .map entries => uptoBulkEntries entries + 1
  | .held _ => 1
def uptoBulkAll {H : Type} : List (DataW H) → Nat
  | [] => 0
  | d :: r => uptoBulk d + uptoBulkAll r
def uptoBulkEntries {H : Type} : List (Lit × DataW H) → Nat
  | [] => 0
  | x :: r => uptoBulkEntry x + uptoBulkEntries r
def uptoBulkEntry {H : Type} : Lit × DataW H → Nat
  | (.string bytes, d) => bytes.length + uptoBulk d + 1
  | (_, d) => uptoBulk d + 1
 end
def uptoSmall : (H : Type) → List (DataW H) → Bool := fun _ ds => decide (uptoBulkAll ds ≤ 1048576)
def OpenSpec.upto (s : _root_.Go.ChangeSpec) : _root_.Go.OpenSpec := { _root_.Go.OpenSpec.ofChange s with cond := some uptoSmall }

/-- 'laws.FnBIRanges', WHERE WHAT IT READS IS OF BULK AT MOST 1048576: true; the input reads as it did. -/
def fnBIRangesUptoRow : OpenClaim := { program := "ytcfcbcjaiplllaa", sum := "7ad254acc19776dfe513b88b0bcf5b3cca323c0736525088ca2e277d7b1b10b9", func := "given.example/pub-quietzone/laws.FnBIRanges", spec := "fnBIRanges", apart := false, narrowed := true }
def FnBIRangesUptoSaid : Prop := fnBIRangesUptoRow.holds Try.pinned (OpenSpec.upto fnBIRangesSpec)

/-- 'laws.FnBIRows', WHERE WHAT IT READS IS OF BULK AT MOST 1048576: true; the input reads as it did. -/
def fnBIRowsUptoRow : OpenClaim := { program := "ytcfcbcjaiplllaa", sum := "7ad254acc19776dfe513b88b0bcf5b3cca323c0736525088ca2e277d7b1b10b9", func := "given.example/pub-quietzone/laws.FnBIRows", spec := "fnBIRows", apart := false, narrowed := true }
def FnBIRowsUptoSaid : Prop := fnBIRowsUptoRow.holds Try.pinned (OpenSpec.upto fnBIRowsSpec)

/-- 'laws.FnBIGrids', WHERE WHAT IT READS IS OF BULK AT MOST 1048576: true; the input reads as it did. -/
def fnBIGridsUptoRow : OpenClaim := { program := "ytcfcbcjaiplllaa", sum := "7ad254acc19776dfe513b88b0bcf5b3cca323c0736525088ca2e277d7b1b10b9", func := "given.example/pub-quietzone/laws.FnBIGrids", spec := "fnBIGrids", apart := false, narrowed := true }
def FnBIGridsUptoSaid : Prop := fnBIGridsUptoRow.holds Try.pinned (OpenSpec.upto fnBIGridsSpec)

/-- 'laws.FnBISplit', WHERE WHAT IT READS IS OF BULK AT MOST 1048576: true; the input reads as it did. -/
def fnBISplitUptoRow : OpenClaim := { program := "ytcfcbcjaiplllaa", sum := "7ad254acc19776dfe513b88b0bcf5b3cca323c0736525088ca2e277d7b1b10b9", func := "given.example/pub-quietzone/laws.FnBISplit", spec := "fnBISplit", apart := false, narrowed := true }
def FnBISplitUptoSaid : Prop := fnBISplitUptoRow.holds Try.pinned (OpenSpec.upto fnBISplitSpec)

end Rows
end Go.Proofs.Ytcfcbcjaiplllaa
