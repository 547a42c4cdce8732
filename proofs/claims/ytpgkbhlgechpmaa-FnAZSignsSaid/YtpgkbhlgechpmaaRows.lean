/-
  No cell of these rows narrows 'for every input' (looked for: loops, veiled, ifaces, maps, wideKeys, modest, calm, conditions, laid).
  DERIVED. THE GIVEN ROWS OF THIS SEAT. 6 by the template 'for every input the law returns true; each argument reads behind the call as it read before'; 0 by the template 'total and deterministic' (their statements: YtpgkbhlgechpmaaTotals.lean).
  GIVEN WITH THE SEED: the statements are not yours to turn. If you find one false, say at which input.
  Laid BY PROGRAM, IN A SANDBOX (cutbox-rows.mjs): the forced cells as the released guide's own fill.sh prints them over the translation 3b04573fc4a01da4… (all of the seat's roots in one cut). By AI agents, Wed Nov 11 2026. No macro, syntax, notation, axiom, sorry.
-/
import Derived.Test.YtpgkbhlgechpmaaChecked
import GoSem.Claim
import GoSem.ClaimJoined
import GoSem.ClaimMapViews
import Derived.JoinedTies
import Derived.KernelRfl
namespace Go.Proofs.Ytpgkbhlgechpmaa
/- THE CELL 'sum', in the pinned program and in every row, IS THE sha256 OF THE DUMP (.gsa) THAT YtpgkbhlgechpmaaProg.lean LOADS. Nothing in Lean hashes anything: it is a label: what it is worth is what the hold of that sum in a sandbox is worth. -/
noncomputable def Try.pinned : Pinned := { name := "ytpgkbhlgechpmaa", sum := "3b04573fc4a01da46475e318b945c431e3cc5bb761c1473dbeef150d2d86863c", checked := Try.checked }
namespace Rows
def none {H : Type} : Left H := { results := [], args := [] }

/-- 'laws.FnAZRoom': WHATEVER THE INPUT: true; the input reads as it did. -/
def fnAZRoomSpec : ChangeSpec := { name := "fnAZRoom", fn := fun _ => fun
  | [d1, d2] => { results := [.lit (.bool true)], args := [d1, d2] }
  | _ => none }
def fnAZRoomRow : OpenClaim := { program := "ytpgkbhlgechpmaa", sum := "3b04573fc4a01da46475e318b945c431e3cc5bb761c1473dbeef150d2d86863c", func := "given.example/pub-quietzone/laws.FnAZRoom", spec := "fnAZRoom", apart := false }
def FnAZRoomSaid : Prop := fnAZRoomRow.holds Try.pinned (OpenSpec.ofChange fnAZRoomSpec)

/-- ITS FALSE NEIGHBOUR: 'it returns false'. Refute it at one input. -/
def fnAZRoomWrong : ChangeSpec := { name := "fnAZRoom", fn := fun _ => fun
  | [d1, d2] => { results := [.lit (.bool false)], args := [d1, d2] }
  | _ => none }
def FnAZRoomWrongFalsely : Prop := fnAZRoomRow.holds Try.pinned (OpenSpec.ofChange fnAZRoomWrong)

/-- 'laws.FnRVValues': WHATEVER THE INPUT: true; the input reads as it did. -/
def fnRVValuesSpec : ChangeSpec := { name := "fnRVValues", fn := fun _ => fun
  | [d1, d2, d3] => { results := [.lit (.bool true)], args := [d1, d2, d3] }
  | _ => none }
def fnRVValuesRow : OpenClaim := { program := "ytpgkbhlgechpmaa", sum := "3b04573fc4a01da46475e318b945c431e3cc5bb761c1473dbeef150d2d86863c", func := "given.example/pub-quietzone/laws.FnRVValues", spec := "fnRVValues", recurses := true, apart := false }
def FnRVValuesSaid : Prop := fnRVValuesRow.holds Try.pinned (OpenSpec.ofChange fnRVValuesSpec)

/-- ITS FALSE NEIGHBOUR: 'it returns false'. Refute it at one input. -/
def fnRVValuesWrong : ChangeSpec := { name := "fnRVValues", fn := fun _ => fun
  | [d1, d2, d3] => { results := [.lit (.bool false)], args := [d1, d2, d3] }
  | _ => none }
def FnRVValuesWrongFalsely : Prop := fnRVValuesRow.holds Try.pinned (OpenSpec.ofChange fnRVValuesWrong)

/-- 'laws.FnAZTurns': WHATEVER THE INPUT: true; the input reads as it did. -/
def fnAZTurnsSpec : ChangeSpec := { name := "fnAZTurns", fn := fun _ => fun
  | [d1, d2, d3] => { results := [.lit (.bool true)], args := [d1, d2, d3] }
  | _ => none }
def fnAZTurnsRow : OpenClaim := { program := "ytpgkbhlgechpmaa", sum := "3b04573fc4a01da46475e318b945c431e3cc5bb761c1473dbeef150d2d86863c", func := "given.example/pub-quietzone/laws.FnAZTurns", spec := "fnAZTurns", apart := false }
def FnAZTurnsSaid : Prop := fnAZTurnsRow.holds Try.pinned (OpenSpec.ofChange fnAZTurnsSpec)

/-- ITS FALSE NEIGHBOUR: 'it returns false'. Refute it at one input. -/
def fnAZTurnsWrong : ChangeSpec := { name := "fnAZTurns", fn := fun _ => fun
  | [d1, d2, d3] => { results := [.lit (.bool false)], args := [d1, d2, d3] }
  | _ => none }
def FnAZTurnsWrongFalsely : Prop := fnAZTurnsRow.holds Try.pinned (OpenSpec.ofChange fnAZTurnsWrong)

/-- 'laws.FnAZSigns': WHATEVER THE INPUT: true; the input reads as it did. -/
def fnAZSignsSpec : ChangeSpec := { name := "fnAZSigns", fn := fun _ => fun
  | [d1, d2] => { results := [.lit (.bool true)], args := [d1, d2] }
  | _ => none }
def fnAZSignsRow : OpenClaim := { program := "ytpgkbhlgechpmaa", sum := "3b04573fc4a01da46475e318b945c431e3cc5bb761c1473dbeef150d2d86863c", func := "given.example/pub-quietzone/laws.FnAZSigns", spec := "fnAZSigns", apart := false }
def FnAZSignsSaid : Prop := fnAZSignsRow.holds Try.pinned (OpenSpec.ofChange fnAZSignsSpec)

/-- ITS FALSE NEIGHBOUR: 'it returns false'. Refute it at one input. -/
def fnAZSignsWrong : ChangeSpec := { name := "fnAZSigns", fn := fun _ => fun
  | [d1, d2] => { results := [.lit (.bool false)], args := [d1, d2] }
  | _ => none }
def FnAZSignsWrongFalsely : Prop := fnAZSignsRow.holds Try.pinned (OpenSpec.ofChange fnAZSignsWrong)

/-- 'laws.FnPXScales': WHATEVER THE INPUT: true; the input reads as it did. -/
def fnPXScalesSpec : ChangeSpec := { name := "fnPXScales", fn := fun _ => fun
  | [d1, d2] => { results := [.lit (.bool true)], args := [d1, d2] }
  | _ => none }
def fnPXScalesRow : OpenClaim := { program := "ytpgkbhlgechpmaa", sum := "3b04573fc4a01da46475e318b945c431e3cc5bb761c1473dbeef150d2d86863c", func := "given.example/pub-quietzone/laws.FnPXScales", spec := "fnPXScales", apart := false }
def FnPXScalesSaid : Prop := fnPXScalesRow.holds Try.pinned (OpenSpec.ofChange fnPXScalesSpec)

/-- ITS FALSE NEIGHBOUR: 'it returns false'. Refute it at one input. -/
def fnPXScalesWrong : ChangeSpec := { name := "fnPXScales", fn := fun _ => fun
  | [d1, d2] => { results := [.lit (.bool false)], args := [d1, d2] }
  | _ => none }
def FnPXScalesWrongFalsely : Prop := fnPXScalesRow.holds Try.pinned (OpenSpec.ofChange fnPXScalesWrong)

/-- 'laws.FnODRuns': WHATEVER THE INPUT: true; the input reads as it did. -/
def fnODRunsSpec : ChangeSpec := { name := "fnODRuns", fn := fun _ => fun
  | [d1, d2, d3] => { results := [.lit (.bool true)], args := [d1, d2, d3] }
  | _ => none }
def fnODRunsRow : OpenClaim := { program := "ytpgkbhlgechpmaa", sum := "3b04573fc4a01da46475e318b945c431e3cc5bb761c1473dbeef150d2d86863c", func := "given.example/pub-quietzone/laws.FnODRuns", spec := "fnODRuns", apart := false }
def FnODRunsSaid : Prop := fnODRunsRow.holds Try.pinned (OpenSpec.ofChange fnODRunsSpec)

/-- ITS FALSE NEIGHBOUR: 'it returns false'. Refute it at one input. -/
def fnODRunsWrong : ChangeSpec := { name := "fnODRuns", fn := fun _ => fun
  | [d1, d2, d3] => { results := [.lit (.bool false)], args := [d1, d2, d3] }
  | _ => none }
def FnODRunsWrongFalsely : Prop := fnODRunsRow.holds Try.pinned (OpenSpec.ofChange fnODRunsWrong)

/- THE SECOND FORM. 'bulk': how many values and letters a reading holds, each counted each time it is reached (what is shared counts as often as it is met; a slice's spare places count too). A statement '..UptoSaid' is the law's where the arguments, and the package variables that the reading takes, are together of bulk at most 1048576: NARROWER than '..Said'. Prove '..Said' where nothing that the law and all that it calls make is longer than what came in: it says more and counts as full. Else prove '..UptoSaid'. A law counts once. -/
mutual
def uptoBulk {H : Type} : DataW H → Nat
  | .lit (.string bytes) => bytes.length + 1
  | .lit _ => 1
  | .nil => 1
  | .ptr d => uptoBulk d + 1
  | .slice elems spare => uptoBulkAll elems + uptoBulkAll spare + 1
  | .agg parts => uptoBulkAll parts + 1
  | .iface _ d => uptoBulk d + 1
  | .map entries => uptoBulkEntries entries + 1
  | .held _ => 1
def uptoBulkAll {H : Type} : List (DataW H) → Nat
  | [] => 0
  | d :: r => uptoBulk d + uptoBulkAll r
def uptoBulkEntries {H : Type} : List (Lit × DataW H) → Nat
  | [] => 0
  | x :: r => uptoBulkEntry x + uptoBulkEntries r
def uptoBulkEntry {H : Type} : Lit × DataW H → Nat
  | (.string bytes, d) => bytes.length + uptoBulk d + 1
  | (_, d) => uptoBulk d + 1
 end
def uptoSmall : (H : Type) → List (DataW H) → Bool := fun _ ds => decide (uptoBulkAll ds ≤ 1048576)
def OpenSpec.upto (s : _root_.Go.ChangeSpec) : _root_.Go.OpenSpec := { _root_.Go.OpenSpec.ofChange s with cond := some uptoSmall }

/-- 'laws.FnAZRoom', WHERE WHAT IT READS IS OF BULK AT MOST 1048576: true; the input reads as it did. -/
def fnAZRoomUptoRow : OpenClaim := { program := "ytpgkbhlgechpmaa", sum := "3b04573fc4a01da46475e318b945c431e3cc5bb761c1473dbeef150d2d86863c", func := "given.example/pub-quietzone/laws.FnAZRoom", spec := "fnAZRoom", apart := false, narrowed := true }
def FnAZRoomUptoSaid : Prop := fnAZRoomUptoRow.holds Try.pinned (OpenSpec.upto fnAZRoomSpec)

/-- 'laws.FnRVValues', WHERE WHAT IT READS IS OF BULK AT MOST 1048576: true; the input reads as it did. -/
def fnRVValuesUptoRow : OpenClaim := { program := "ytpgkbhlgechpmaa", sum := "3b04573fc4a01da46475e318b945c431e3cc5bb761c1473dbeef150d2d86863c", func := "given.example/pub-quietzone/laws.FnRVValues", spec := "fnRVValues", recurses := true, apart := false, narrowed := true }
def FnRVValuesUptoSaid : Prop := fnRVValuesUptoRow.holds Try.pinned (OpenSpec.upto fnRVValuesSpec)

/-- 'laws.FnAZTurns', WHERE WHAT IT READS IS OF BULK AT MOST 1048576: true; the input reads as it did. -/
def fnAZTurnsUptoRow : OpenClaim := { program := "ytpgkbhlgechpmaa", sum := "3b04573fc4a01da46475e318b945c431e3cc5bb761c1473dbeef150d2d86863c", func := "given.example/pub-quietzone/laws.FnAZTurns", spec := "fnAZTurns", apart := false, narrowed := true }
def FnAZTurnsUptoSaid : Prop := fnAZTurnsUptoRow.holds Try.pinned (OpenSpec.upto fnAZTurnsSpec)

/-- 'laws.FnAZSigns', WHERE WHAT IT READS IS OF BULK AT MOST 1048576: true; the input reads as it did. -/
def fnAZSignsUptoRow : OpenClaim := { program := "ytpgkbhlgechpmaa", sum := "3b04573fc4a01da46475e318b945c431e3cc5bb761c1473dbeef150d2d86863c", func := "given.example/pub-quietzone/laws.FnAZSigns", spec := "fnAZSigns", apart := false, narrowed := true }
def FnAZSignsUptoSaid : Prop := fnAZSignsUptoRow.holds Try.pinned (OpenSpec.upto fnAZSignsSpec)

/-- 'laws.FnPXScales', WHERE WHAT IT READS IS OF BULK AT MOST 1048576: true; the input reads as it did. -/
def fnPXScalesUptoRow : OpenClaim := { program := "ytpgkbhlgechpmaa", sum := "3b04573fc4a01da46475e318b945c431e3cc5bb761c1473dbeef150d2d86863c", func := "given.example/pub-quietzone/laws.FnPXScales", spec := "fnPXScales", apart := false, narrowed := true }
def FnPXScalesUptoSaid : Prop := fnPXScalesUptoRow.holds Try.pinned (OpenSpec.upto fnPXScalesSpec)

/-- 'laws.FnODRuns', WHERE WHAT IT READS IS OF BULK AT MOST 1048576: true; the input reads as it did. -/
def fnODRunsUptoRow : OpenClaim := { program := "ytpgkbhlgechpmaa", sum := "3b04573fc4a01da46475e318b945c431e3cc5bb761c1473dbeef150d2d86863c", func := "given.example/pub-quietzone/laws.FnODRuns", spec := "fnODRuns", apart := false, narrowed := true }
def FnODRunsUptoSaid : Prop := fnODRunsUptoRow.holds Try.pinned (OpenSpec.upto fnODRunsSpec)

end Rows
end Go.Proofs.Ytpgkbhlgechpmaa
