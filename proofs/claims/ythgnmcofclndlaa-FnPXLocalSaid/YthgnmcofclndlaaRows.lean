/-
  No cell of these rows narrows 'for every input' (looked for: loops, veiled, ifaces, maps, wideKeys, modest, calm, conditions, laid).
  DERIVED. THE GIVEN ROWS OF THIS SEAT. 4 by the template 'for every input the law returns true; each argument reads behind the call as it read before'; 0 by the template 'total and deterministic' (their statements: YthgnmcofclndlaaTotals.lean).
  GIVEN WITH THE SEED: the statements are not yours to turn. If you find one false, say at which input.
  Laid BY PROGRAM, IN A SANDBOX (cutbox-rows.mjs): the forced cells as the released guide's own fill.sh prints them over the translation 026c55612caf008d… (all of the seat's roots in one cut). By AI agents, Wed Nov 11 2026. No macro, syntax, notation, axiom, sorry.
-/
import Derived.Test.YthgnmcofclndlaaChecked
import GoSem.Claim
import GoSem.ClaimJoined
import GoSem.ClaimMapViews
import Derived.JoinedTies
import Derived.KernelRfl
namespace Go.Proofs.Ythgnmcofclndlaa
/- THE CELL 'sum', in the pinned program and in every row, IS THE sha256 OF THE DUMP (.gsa) THAT YthgnmcofclndlaaProg.lean LOADS. Nothing in Lean hashes anything: it is a label: what it is worth is what the hold of that sum in a sandbox is worth. -/
noncomputable def Try.pinned : Pinned := { name := "ythgnmcofclndlaa", sum := "026c55612caf008d6a328b64ac4f620d241e41af7eab05f3cc0fce682636891a", checked := Try.checked }
namespace Rows
def none {H : Type} : Left H := { results := [], args := [] }

/-- 'laws.FnPXCrops': WHATEVER THE INPUT: true; the input reads as it did. -/
def fnPXCropsSpec : ChangeSpec := { name := "fnPXCrops", fn := fun _ => fun
  | [d1, d2, d3, d4, d5, d6] => { results := [.lit (.bool true)], args := [d1, d2, d3, d4, d5, d6] }
  | _ => none }
def fnPXCropsRow : OpenClaim := { program := "ythgnmcofclndlaa", sum := "026c55612caf008d6a328b64ac4f620d241e41af7eab05f3cc0fce682636891a", func := "given.example/pub-quietzone/laws.FnPXCrops", spec := "fnPXCrops", unfollowed := true, recurses := true, apart := false }
def FnPXCropsSaid : Prop := fnPXCropsRow.holds Try.pinned (OpenSpec.ofChange fnPXCropsSpec)

/-- ITS FALSE NEIGHBOUR: 'it returns false'. Refute it at one input. -/
def fnPXCropsWrong : ChangeSpec := { name := "fnPXCrops", fn := fun _ => fun
  | [d1, d2, d3, d4, d5, d6] => { results := [.lit (.bool false)], args := [d1, d2, d3, d4, d5, d6] }
  | _ => none }
def FnPXCropsWrongFalsely : Prop := fnPXCropsRow.holds Try.pinned (OpenSpec.ofChange fnPXCropsWrong)

/-- 'laws.FnPXText': WHATEVER THE INPUT: true; the input reads as it did. -/
def fnPXTextSpec : ChangeSpec := { name := "fnPXText", fn := fun _ => fun
  | [d1, d2] => { results := [.lit (.bool true)], args := [d1, d2] }
  | _ => none }
def fnPXTextRow : OpenClaim := { program := "ythgnmcofclndlaa", sum := "026c55612caf008d6a328b64ac4f620d241e41af7eab05f3cc0fce682636891a", func := "given.example/pub-quietzone/laws.FnPXText", spec := "fnPXText", unfollowed := true, recurses := true, apart := false }
def FnPXTextSaid : Prop := fnPXTextRow.holds Try.pinned (OpenSpec.ofChange fnPXTextSpec)

/-- ITS FALSE NEIGHBOUR: 'it returns false'. Refute it at one input. -/
def fnPXTextWrong : ChangeSpec := { name := "fnPXText", fn := fun _ => fun
  | [d1, d2] => { results := [.lit (.bool false)], args := [d1, d2] }
  | _ => none }
def FnPXTextWrongFalsely : Prop := fnPXTextRow.holds Try.pinned (OpenSpec.ofChange fnPXTextWrong)

/-- 'laws.FnPXGlobal': WHATEVER THE INPUT: true; the input reads as it did. -/
def fnPXGlobalSpec : ChangeSpec := { name := "fnPXGlobal", fn := fun _ => fun
  | [d1, d2, d3, d4, d5] => { results := [.lit (.bool true)], args := [d1, d2, d3, d4, d5] }
  | _ => none }
def fnPXGlobalRow : OpenClaim := { program := "ythgnmcofclndlaa", sum := "026c55612caf008d6a328b64ac4f620d241e41af7eab05f3cc0fce682636891a", func := "given.example/pub-quietzone/laws.FnPXGlobal", spec := "fnPXGlobal", unfollowed := true, recurses := true, apart := false }
def FnPXGlobalSaid : Prop := fnPXGlobalRow.holds Try.pinned (OpenSpec.ofChange fnPXGlobalSpec)

/-- ITS FALSE NEIGHBOUR: 'it returns false'. Refute it at one input. -/
def fnPXGlobalWrong : ChangeSpec := { name := "fnPXGlobal", fn := fun _ => fun
  | [d1, d2, d3, d4, d5] => { results := [.lit (.bool false)], args := [d1, d2, d3, d4, d5] }
  | _ => none }
def FnPXGlobalWrongFalsely : Prop := fnPXGlobalRow.holds Try.pinned (OpenSpec.ofChange fnPXGlobalWrong)

/-- 'laws.FnPXLocal': WHATEVER THE INPUT: true; the input reads as it did. -/
def fnPXLocalSpec : ChangeSpec := { name := "fnPXLocal", fn := fun _ => fun
  | [d1, d2, d3, d4, d5] => { results := [.lit (.bool true)], args := [d1, d2, d3, d4, d5] }
  | _ => none }
def fnPXLocalRow : OpenClaim := { program := "ythgnmcofclndlaa", sum := "026c55612caf008d6a328b64ac4f620d241e41af7eab05f3cc0fce682636891a", func := "given.example/pub-quietzone/laws.FnPXLocal", spec := "fnPXLocal", unfollowed := true, recurses := true, apart := false }
def FnPXLocalSaid : Prop := fnPXLocalRow.holds Try.pinned (OpenSpec.ofChange fnPXLocalSpec)

/-- ITS FALSE NEIGHBOUR: 'it returns false'. Refute it at one input. -/
def fnPXLocalWrong : ChangeSpec := { name := "fnPXLocal", fn := fun _ => fun
  | [d1, d2, d3, d4, d5] => { results := [.lit (.bool false)], args := [d1, d2, d3, d4, d5] }
  | _ => none }
def FnPXLocalWrongFalsely : Prop := fnPXLocalRow.holds Try.pinned (OpenSpec.ofChange fnPXLocalWrong)

/- THE SECOND FORM. 'bulk': how many values and letters a reading holds, each counted each time it is reached (what is shared counts as often as it is met; a slice's spare places count too). A statement '..UptoSaid' is the law's where the arguments, and the package variables that the reading takes, are together of bulk at most 1048576: NARROWER than '..Said'. Prove '..Said' where nothing that the law and all that it calls make is longer than what came in: it says more and counts as full. Else prove '..UptoSaid'. A law counts once. -/
mutual
def uptoBulk {H : Type} : DataW H → Nat
  | .lit (.string bytes) => bytes.length + 1
  | .lit _ => 1
  | .nil => 1
  | .ptr d => uptoBulk d + 1
  | .slice elems spare => uptoBulkAll elems + uptoBulkAll spare + 1
  | .agg parts => uptoBulkAll parts + 1
  | .iface _ d => uptoBulk d + 1
  | .map entries => uptoBulkEntries entries + 1
  | .held _ => 1
def uptoBulkAll {H : Type} : List (DataW H) → Nat
  | [] => 0
  | d :: r => uptoBulk d + uptoBulkAll r
def uptoBulkEntries {H : Type} : List (Lit × DataW H) → Nat
  | [] => 0
  | x :: r => uptoBulkEntry x + uptoBulkEntries r
def uptoBulkEntry {H : Type} : Lit × DataW H → Nat
  | (.string bytes, d) => bytes.length + uptoBulk d + 1
  | (_, d) => uptoBulk d + 1
 end
def uptoSmall : (H : Type) → List (DataW H) → Bool := fun _ ds => decide (uptoBulkAll ds ≤ 1048576)
def OpenSpec.upto (s : _root_.Go.ChangeSpec) : _root_.Go.OpenSpec := { _root_.Go.OpenSpec.ofChange s with cond := some uptoSmall }

/-- 'laws.FnPXCrops', WHERE WHAT IT READS IS OF BULK AT MOST 1048576: true; the input reads as it did. -/
def fnPXCropsUptoRow : OpenClaim := { program := "ythgnmcofclndlaa", sum := "026c55612caf008d6a328b64ac4f620d241e41af7eab05f3cc0fce682636891a", func := "given.example/pub-quietzone/laws.FnPXCrops", spec := "fnPXCrops", unfollowed := true, recurses := true, apart := false, narrowed := true }
def FnPXCropsUptoSaid : Prop := fnPXCropsUptoRow.holds Try.pinned (OpenSpec.upto fnPXCropsSpec)

/-- 'laws.FnPXText', WHERE WHAT IT READS IS OF BULK AT MOST 1048576: true; the input reads as it did. -/
def fnPXTextUptoRow : OpenClaim := { program := "ythgnmcofclndlaa", sum := "026c55612caf008d6a328b64ac4f620d241e41af7eab05f3cc0fce682636891a", func := "given.example/pub-quietzone/laws.FnPXText", spec := "fnPXText", unfollowed := true, recurses := true, apart := false, narrowed := true }
def FnPXTextUptoSaid : Prop := fnPXTextUptoRow.holds Try.pinned (OpenSpec.upto fnPXTextSpec)

/-- 'laws.FnPXGlobal', WHERE WHAT IT READS IS OF BULK AT MOST 1048576: true; the input reads as it did. -/
def fnPXGlobalUptoRow : OpenClaim := { program := "ythgnmcofclndlaa", sum := "026c55612caf008d6a328b64ac4f620d241e41af7eab05f3cc0fce682636891a", func := "given.example/pub-quietzone/laws.FnPXGlobal", spec := "fnPXGlobal", unfollowed := true, recurses := true, apart := false, narrowed := true }
def FnPXGlobalUptoSaid : Prop := fnPXGlobalUptoRow.holds Try.pinned (OpenSpec.upto fnPXGlobalSpec)

/-- 'laws.FnPXLocal', WHERE WHAT IT READS IS OF BULK AT MOST 1048576: true; the input reads as it did. -/
def fnPXLocalUptoRow : OpenClaim := { program := "ythgnmcofclndlaa", sum := "026c55612caf008d6a328b64ac4f620d241e41af7eab05f3cc0fce682636891a", func := "given.example/pub-quietzone/laws.FnPXLocal", spec := "fnPXLocal", unfollowed := true, recurses := true, apart := false, narrowed := true }
def FnPXLocalUptoSaid : Prop := fnPXLocalUptoRow.holds Try.pinned (OpenSpec.upto fnPXLocalSpec)

end Rows
end Go.Proofs.Ythgnmcofclndlaa
