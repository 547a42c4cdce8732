/-
  No cell of these rows narrows 'for every input' (looked for: loops, veiled, ifaces, maps, wideKeys, modest, calm, conditions, laid).
  DERIVED. THE GIVEN ROWS OF THIS SEAT. 5 by the template 'for every input the law returns true; each argument reads behind the call as it read before'; 0 by the template 'total and deterministic' (their statements: YtpeipolknphjhaaTotals.lean).
  GIVEN WITH THE SEED: the statements are not yours to turn. If you find one false, say at which input.
  Laid BY PROGRAM, IN A SANDBOX (cutbox-rows.mjs): the forced cells as the released guide's own fill.sh prints them over the translation 218baa258d4a04a1… (all of the seat's roots in one cut). By AI agents, Wed Nov 11 2026. No macro, syntax, notation, axiom, sorry.
-/
import Derived.Test.YtpeipolknphjhaaChecked
import GoSem.Claim
import GoSem.ClaimJoined
import GoSem.ClaimMapViews
import Derived.JoinedTies
import Derived.KernelRfl
namespace Go.Proofs.Ytpeipolknphjhaa
/- THE CELL 'sum', in the pinned program and in every row, IS THE sha256 OF THE DUMP (.gsa) THAT YtpeipolknphjhaaProg.lean LOADS. Nothing in Lean hashes anything: it is a label: what it is worth is what the hold of that sum in a sandbox is worth. -/
noncomputable def Try.pinned : Pinned := { name := "ytpeipolknphjhaa", sum := "218baa258d4a04a1f8ccd6d0e6a2ef7689ac077d38b095bd44853d766b3bf50c", checked := Try.checked }
namespace Rows
def none {H : Type} : Left H := { results := [], args := [] }

/-- 'laws.FnQRFormats': WHATEVER THE INPUT: true; the input reads as it did. -/
def fnQRFormatsSpec : ChangeSpec := { name := "fnQRFormats", fn := fun _ => fun
  | [d1, d2, d3, d4] => { results := [.lit (.bool true)], args := [d1, d2, d3, d4] }
  | _ => none }
def fnQRFormatsRow : OpenClaim := { program := "ytpeipolknphjhaa", sum := "218baa258d4a04a1f8ccd6d0e6a2ef7689ac077d38b095bd44853d766b3bf50c", func := "given.example/pub-quietzone/laws.FnQRFormats", spec := "fnQRFormats", apart := false }
def FnQRFormatsSaid : Prop := fnQRFormatsRow.holds Try.pinned (OpenSpec.ofChange fnQRFormatsSpec)

/-- ITS FALSE NEIGHBOUR: 'it returns false'. Refute it at one input. -/
def fnQRFormatsWrong : ChangeSpec := { name := "fnQRFormats", fn := fun _ => fun
  | [d1, d2, d3, d4] => { results := [.lit (.bool false)], args := [d1, d2, d3, d4] }
  | _ => none }
def FnQRFormatsWrongFalsely : Prop := fnQRFormatsRow.holds Try.pinned (OpenSpec.ofChange fnQRFormatsWrong)

/-- 'laws.FnQRPenaltyBlocks': WHATEVER THE INPUT: true; the input reads as it did. -/
def fnQRPenaltyBlocksSpec : ChangeSpec := { name := "fnQRPenaltyBlocks", fn := fun _ => fun
  | [d] => { results := [.lit (.bool true)], args := [d] }
  | _ => none }
def fnQRPenaltyBlocksRow : OpenClaim := { program := "ytpeipolknphjhaa", sum := "218baa258d4a04a1f8ccd6d0e6a2ef7689ac077d38b095bd44853d766b3bf50c", func := "given.example/pub-quietzone/laws.FnQRPenaltyBlocks", spec := "fnQRPenaltyBlocks", apart := false }
def FnQRPenaltyBlocksSaid : Prop := fnQRPenaltyBlocksRow.holds Try.pinned (OpenSpec.ofChange fnQRPenaltyBlocksSpec)

/-- ITS FALSE NEIGHBOUR: 'it returns false'. Refute it at one input. -/
def fnQRPenaltyBlocksWrong : ChangeSpec := { name := "fnQRPenaltyBlocks", fn := fun _ => fun
  | [d] => { results := [.lit (.bool false)], args := [d] }
  | _ => none }
def FnQRPenaltyBlocksWrongFalsely : Prop := fnQRPenaltyBlocksRow.holds Try.pinned (OpenSpec.ofChange fnQRPenaltyBlocksWrong)

/-- 'laws.FnQRSizes': WHATEVER THE INPUT: true; the input reads as it did. -/
def fnQRSizesSpec : ChangeSpec := { name := "fnQRSizes", fn := fun _ => fun
  | [d] => { results := [.lit (.bool true)], args := [d] }
  | _ => none }
def fnQRSizesRow : OpenClaim := { program := "ytpeipolknphjhaa", sum := "218baa258d4a04a1f8ccd6d0e6a2ef7689ac077d38b095bd44853d766b3bf50c", func := "given.example/pub-quietzone/laws.FnQRSizes", spec := "fnQRSizes", apart := false }
def FnQRSizesSaid : Prop := fnQRSizesRow.holds Try.pinned (OpenSpec.ofChange fnQRSizesSpec)

/-- ITS FALSE NEIGHBOUR: 'it returns false'. Refute it at one input. -/
def fnQRSizesWrong : ChangeSpec := { name := "fnQRSizes", fn := fun _ => fun
  | [d] => { results := [.lit (.bool false)], args := [d] }
  | _ => none }
def FnQRSizesWrongFalsely : Prop := fnQRSizesRow.holds Try.pinned (OpenSpec.ofChange fnQRSizesWrong)

/-- 'laws.FnQRVersionNear': WHATEVER THE INPUT: true; the input reads as it did. -/
def fnQRVersionNearSpec : ChangeSpec := { name := "fnQRVersionNear", fn := fun _ => fun
  | [d1, d2] => { results := [.lit (.bool true)], args := [d1, d2] }
  | _ => none }
def fnQRVersionNearRow : OpenClaim := { program := "ytpeipolknphjhaa", sum := "218baa258d4a04a1f8ccd6d0e6a2ef7689ac077d38b095bd44853d766b3bf50c", func := "given.example/pub-quietzone/laws.FnQRVersionNear", spec := "fnQRVersionNear", apart := false }
def FnQRVersionNearSaid : Prop := fnQRVersionNearRow.holds Try.pinned (OpenSpec.ofChange fnQRVersionNearSpec)

/-- ITS FALSE NEIGHBOUR: 'it returns false'. Refute it at one input. -/
def fnQRVersionNearWrong : ChangeSpec := { name := "fnQRVersionNear", fn := fun _ => fun
  | [d1, d2] => { results := [.lit (.bool false)], args := [d1, d2] }
  | _ => none }
def FnQRVersionNearWrongFalsely : Prop := fnQRVersionNearRow.holds Try.pinned (OpenSpec.ofChange fnQRVersionNearWrong)

/-- 'laws.FnQRBlocks': WHATEVER THE INPUT: true; the input reads as it did. -/
def fnQRBlocksSpec : ChangeSpec := { name := "fnQRBlocks", fn := fun _ => fun
  | [d1, d2, d3, d4] => { results := [.lit (.bool true)], args := [d1, d2, d3, d4] }
  | _ => none }
def fnQRBlocksRow : OpenClaim := { program := "ytpeipolknphjhaa", sum := "218baa258d4a04a1f8ccd6d0e6a2ef7689ac077d38b095bd44853d766b3bf50c", func := "given.example/pub-quietzone/laws.FnQRBlocks", spec := "fnQRBlocks", apart := false }
def FnQRBlocksSaid : Prop := fnQRBlocksRow.holds Try.pinned (OpenSpec.ofChange fnQRBlocksSpec)

/-- ITS FALSE NEIGHBOUR: 'it returns false'. Refute it at one input. -/
def fnQRBlocksWrong : ChangeSpec := { name := "fnQRBlocks", fn := fun _ => fun
  | [d1, d2, d3, d4] => { results := [.lit (.bool false)], args := [d1, d2, d3, d4] }
  | _ => none }
def FnQRBlocksWrongFalsely : Prop := fnQRBlocksRow.holds Try.pinned (OpenSpec.ofChange fnQRBlocksWrong)

/- THE SECOND FORM. 'bulk': how many values and letters a reading holds, each counted each time it is reached (what is shared counts as often as it is met; a slice's spare places count too). A statement '..UptoSaid' is the law's where the arguments, and the package variables that the reading takes, are together of bulk at most 1048576: NARROWER than '..Said'. Prove '..Said' where nothing that the law and all that it calls make is longer than what came in: it says more and counts as full. Else prove '..UptoSaid'. A law counts once. -/
mutual
def uptoBulk {H : Type} : DataW H → Nat
  | .lit (.string bytes) => bytes.length + 1
  | .lit _ => 1
  | .nil => 1
  | .ptr d => uptoBulk d + 1
  | .slice elems spare => uptoBulkAll elems + uptoBulkAll spare + 1
  | .agg parts => uptoBulkAll parts + 1
  | .iface _ d => uptoBulk d + 1
  | .map entries => uptoBulkEntries entries + 1
  | .held _ => 1
def uptoBulkAll {H : Type} : List (DataW H) → Nat
  | [] => 0
  | d :: r => uptoBulk d + uptoBulkAll r
def uptoBulkEntries {H : Type} : List (Lit × DataW H) → Nat
  | [] => 0
  | x :: r => uptoBulkEntry x + uptoBulkEntries r
def uptoBulkEntry {H : Type} : Lit × DataW H → Nat
  | (.string bytes, d) => bytes.length + uptoBulk d + 1
  | (_, d) => uptoBulk d + 1
 end
def uptoSmall : (H : Type) → List (DataW H) → Bool := fun _ ds => decide (uptoBulkAll ds ≤ 1048576)
def OpenSpec.upto (s : _root_.Go.ChangeSpec) : _root_.Go.OpenSpec := { _root_.Go.OpenSpec.ofChange s with cond := some uptoSmall }

/-- 'laws.FnQRFormats', WHERE WHAT IT READS IS OF BULK AT MOST 1048576: true; the input reads as it did. -/
def fnQRFormatsUptoRow : OpenClaim := { program := "ytpeipolknphjhaa", sum := "218baa258d4a04a1f8ccd6d0e6a2ef7689ac077d38b095bd44853d766b3bf50c", func := "given.example/pub-quietzone/laws.FnQRFormats", spec := "fnQRFormats", apart := false, narrowed := true }
def FnQRFormatsUptoSaid : Prop := fnQRFormatsUptoRow.holds Try.pinned (OpenSpec.upto fnQRFormatsSpec)

/-- 'laws.FnQRPenaltyBlocks', WHERE WHAT IT READS IS OF BULK AT MOST 1048576: true; the input reads as it did. -/
def fnQRPenaltyBlocksUptoRow : OpenClaim := { program := "ytpeipolknphjhaa", sum := "218baa258d4a04a1f8ccd6d0e6a2ef7689ac077d38b095bd44853d766b3bf50c", func := "given.example/pub-quietzone/laws.FnQRPenaltyBlocks", spec := "fnQRPenaltyBlocks", apart := false, narrowed := true }
def FnQRPenaltyBlocksUptoSaid : Prop := fnQRPenaltyBlocksUptoRow.holds Try.pinned (OpenSpec.upto fnQRPenaltyBlocksSpec)

/-- 'laws.FnQRSizes', WHERE WHAT IT READS IS OF BULK AT MOST 1048576: true; the input reads as it did. -/
def fnQRSizesUptoRow : OpenClaim := { program := "ytpeipolknphjhaa", sum := "218baa258d4a04a1f8ccd6d0e6a2ef7689ac077d38b095bd44853d766b3bf50c", func := "given.example/pub-quietzone/laws.FnQRSizes", spec := "fnQRSizes", apart := false, narrowed := true }
def FnQRSizesUptoSaid : Prop := fnQRSizesUptoRow.holds Try.pinned (OpenSpec.upto fnQRSizesSpec)

/-- 'laws.FnQRVersionNear', WHERE WHAT IT READS IS OF BULK AT MOST 1048576: true; the input reads as it did. -/
def fnQRVersionNearUptoRow : OpenClaim := { program := "ytpeipolknphjhaa", sum := "218baa258d4a04a1f8ccd6d0e6a2ef7689ac077d38b095bd44853d766b3bf50c", func := "given.example/pub-quietzone/laws.FnQRVersionNear", spec := "fnQRVersionNear", apart := false, narrowed := true }
def FnQRVersionNearUptoSaid : Prop := fnQRVersionNearUptoRow.holds Try.pinned (OpenSpec.upto fnQRVersionNearSpec)

/-- 'laws.FnQRBlocks', WHERE WHAT IT READS IS OF BULK AT MOST 1048576: true; the input reads as it did. -/
def fnQRBlocksUptoRow : OpenClaim := { program := "ytpeipolknphjhaa", sum := "218baa258d4a04a1f8ccd6d0e6a2ef7689ac077d38b095bd44853d766b3bf50c", func := "given.example/pub-quietzone/laws.FnQRBlocks", spec := "fnQRBlocks", apart := false, narrowed := true }
def FnQRBlocksUptoSaid : Prop := fnQRBlocksUptoRow.holds Try.pinned (OpenSpec.upto fnQRBlocksSpec)

end Rows
end Go.Proofs.Ytpeipolknphjhaa
