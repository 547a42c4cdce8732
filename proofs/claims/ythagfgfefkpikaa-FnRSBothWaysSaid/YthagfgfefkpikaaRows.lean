/-
  No cell of these rows narrows 'for every input' (looked for: loops, veiled, ifaces, maps, wideKeys, modest, calm, conditions, laid).
  DERIVED. THE GIVEN ROWS OF THIS SEAT. 6 by the template 'for every input the law returns true; each argument reads behind the call as it read before'; 0 by the template 'total and deterministic' (their statements: YthagfgfefkpikaaTotals.lean).
  GIVEN WITH THE SEED: the statements are not yours to turn. If you find one false, say at which input.
  Laid BY PROGRAM, IN A SANDBOX (cutbox-rows.mjs): the forced cells as the released guide's own fill.sh prints them over the translation e9dcc0d24ec75249… (all of the seat's roots in one cut). By AI agents, Wed Nov 11 2026. No macro, syntax, notation, axiom, sorry.
-/
import Derived.Test.YthagfgfefkpikaaChecked
import GoSem.Claim
import GoSem.ClaimJoined
import GoSem.ClaimMapViews
import Derived.JoinedTies
import Derived.KernelRfl
namespace Go.Proofs.Ythagfgfefkpikaa
/- THE CELL 'sum', in the pinned program and in every row, IS THE sha256 OF THE DUMP (.gsa) THAT YthagfgfefkpikaaProg.lean LOADS. Nothing in Lean hashes anything: it is a label: what it is worth is what the hold of that sum in a sandbox is worth. -/
noncomputable def Try.pinned : Pinned := { name := "ythagfgfefkpikaa", sum := "e9dcc0d24ec752491aedae242b42b1572c4cc8f5aee9300235fc878481e05265", checked := Try.checked }
namespace Rows
def none {H : Type} : Left H := { results := [], args := [] }

/-- 'laws.FnRSLogs': WHATEVER THE INPUT: true; the input reads as it did. -/
def fnRSLogsSpec : ChangeSpec := { name := "fnRSLogs", fn := fun _ => fun
  | [d1, d2, d3] => { results := [.lit (.bool true)], args := [d1, d2, d3] }
  | _ => none }
def fnRSLogsRow : OpenClaim := { program := "ythagfgfefkpikaa", sum := "e9dcc0d24ec752491aedae242b42b1572c4cc8f5aee9300235fc878481e05265", func := "given.example/pub-quietzone/laws.FnRSLogs", spec := "fnRSLogs", apart := false }
def FnRSLogsSaid : Prop := fnRSLogsRow.holds Try.pinned (OpenSpec.ofChange fnRSLogsSpec)

/-- ITS FALSE NEIGHBOUR: 'it returns false'. Refute it at one input. -/
def fnRSLogsWrong : ChangeSpec := { name := "fnRSLogs", fn := fun _ => fun
  | [d1, d2, d3] => { results := [.lit (.bool false)], args := [d1, d2, d3] }
  | _ => none }
def FnRSLogsWrongFalsely : Prop := fnRSLogsRow.holds Try.pinned (OpenSpec.ofChange fnRSLogsWrong)

/-- 'laws.FnRSMakes': WHATEVER THE INPUT: true; the input reads as it did. -/
def fnRSMakesSpec : ChangeSpec := { name := "fnRSMakes", fn := fun _ => fun
  | [d1, d2] => { results := [.lit (.bool true)], args := [d1, d2] }
  | _ => none }
def fnRSMakesRow : OpenClaim := { program := "ythagfgfefkpikaa", sum := "e9dcc0d24ec752491aedae242b42b1572c4cc8f5aee9300235fc878481e05265", func := "given.example/pub-quietzone/laws.FnRSMakes", spec := "fnRSMakes", apart := false }
def FnRSMakesSaid : Prop := fnRSMakesRow.holds Try.pinned (OpenSpec.ofChange fnRSMakesSpec)

/-- ITS FALSE NEIGHBOUR: 'it returns false'. Refute it at one input. -/
def fnRSMakesWrong : ChangeSpec := { name := "fnRSMakes", fn := fun _ => fun
  | [d1, d2] => { results := [.lit (.bool false)], args := [d1, d2] }
  | _ => none }
def FnRSMakesWrongFalsely : Prop := fnRSMakesRow.holds Try.pinned (OpenSpec.ofChange fnRSMakesWrong)

/-- 'laws.FnRSSums': WHATEVER THE INPUT: true; the input reads as it did. -/
def fnRSSumsSpec : ChangeSpec := { name := "fnRSSums", fn := fun _ => fun
  | [d1, d2, d3] => { results := [.lit (.bool true)], args := [d1, d2, d3] }
  | _ => none }
def fnRSSumsRow : OpenClaim := { program := "ythagfgfefkpikaa", sum := "e9dcc0d24ec752491aedae242b42b1572c4cc8f5aee9300235fc878481e05265", func := "given.example/pub-quietzone/laws.FnRSSums", spec := "fnRSSums", apart := false }
def FnRSSumsSaid : Prop := fnRSSumsRow.holds Try.pinned (OpenSpec.ofChange fnRSSumsSpec)

/-- ITS FALSE NEIGHBOUR: 'it returns false'. Refute it at one input. -/
def fnRSSumsWrong : ChangeSpec := { name := "fnRSSums", fn := fun _ => fun
  | [d1, d2, d3] => { results := [.lit (.bool false)], args := [d1, d2, d3] }
  | _ => none }
def FnRSSumsWrongFalsely : Prop := fnRSSumsRow.holds Try.pinned (OpenSpec.ofChange fnRSSumsWrong)

/-- 'laws.FnRSDivides': WHATEVER THE INPUT: true; the input reads as it did. -/
def fnRSDividesSpec : ChangeSpec := { name := "fnRSDivides", fn := fun _ => fun
  | [d1, d2, d3] => { results := [.lit (.bool true)], args := [d1, d2, d3] }
  | _ => none }
def fnRSDividesRow : OpenClaim := { program := "ythagfgfefkpikaa", sum := "e9dcc0d24ec752491aedae242b42b1572c4cc8f5aee9300235fc878481e05265", func := "given.example/pub-quietzone/laws.FnRSDivides", spec := "fnRSDivides", apart := false }
def FnRSDividesSaid : Prop := fnRSDividesRow.holds Try.pinned (OpenSpec.ofChange fnRSDividesSpec)

/-- ITS FALSE NEIGHBOUR: 'it returns false'. Refute it at one input. -/
def fnRSDividesWrong : ChangeSpec := { name := "fnRSDivides", fn := fun _ => fun
  | [d1, d2, d3] => { results := [.lit (.bool false)], args := [d1, d2, d3] }
  | _ => none }
def FnRSDividesWrongFalsely : Prop := fnRSDividesRow.holds Try.pinned (OpenSpec.ofChange fnRSDividesWrong)

/-- 'laws.FnRSRoots': WHATEVER THE INPUT: true; the input reads as it did. -/
def fnRSRootsSpec : ChangeSpec := { name := "fnRSRoots", fn := fun _ => fun
  | [d1, d2, d3] => { results := [.lit (.bool true)], args := [d1, d2, d3] }
  | _ => none }
def fnRSRootsRow : OpenClaim := { program := "ythagfgfefkpikaa", sum := "e9dcc0d24ec752491aedae242b42b1572c4cc8f5aee9300235fc878481e05265", func := "given.example/pub-quietzone/laws.FnRSRoots", spec := "fnRSRoots", apart := false }
def FnRSRootsSaid : Prop := fnRSRootsRow.holds Try.pinned (OpenSpec.ofChange fnRSRootsSpec)

/-- ITS FALSE NEIGHBOUR: 'it returns false'. Refute it at one input. -/
def fnRSRootsWrong : ChangeSpec := { name := "fnRSRoots", fn := fun _ => fun
  | [d1, d2, d3] => { results := [.lit (.bool false)], args := [d1, d2, d3] }
  | _ => none }
def FnRSRootsWrongFalsely : Prop := fnRSRootsRow.holds Try.pinned (OpenSpec.ofChange fnRSRootsWrong)

/-- 'laws.FnRSBothWays': WHATEVER THE INPUT: true; the input reads as it did. -/
def fnRSBothWaysSpec : ChangeSpec := { name := "fnRSBothWays", fn := fun _ => fun
  | [d1, d2, d3, d4, d5] => { results := [.lit (.bool true)], args := [d1, d2, d3, d4, d5] }
  | _ => none }
def fnRSBothWaysRow : OpenClaim := { program := "ythagfgfefkpikaa", sum := "e9dcc0d24ec752491aedae242b42b1572c4cc8f5aee9300235fc878481e05265", func := "given.example/pub-quietzone/laws.FnRSBothWays", spec := "fnRSBothWays", apart := false }
def FnRSBothWaysSaid : Prop := fnRSBothWaysRow.holds Try.pinned (OpenSpec.ofChange fnRSBothWaysSpec)

/-- ITS FALSE NEIGHBOUR: 'it returns false'. Refute it at one input. -/
def fnRSBothWaysWrong : ChangeSpec := { name := "fnRSBothWays", fn := fun _ => fun
  | [d1, d2, d3, d4, d5] => { results := [.lit (.bool false)], args := [d1, d2, d3, d4, d5] }
  | _ => none }
def FnRSBothWaysWrongFalsely : Prop := fnRSBothWaysRow.holds Try.pinned (OpenSpec.ofChange fnRSBothWaysWrong)

/- THE SECOND FORM. 'bulk': how many values and letters a reading holds, each counted each time it is reached (what is shared counts as often as it is met; a slice's spare places count too). A statement '..UptoSaid' is the law's where the arguments, and the package variables that the reading takes, are together of bulk at most 1048576: NARROWER than '..Said'. Prove '..Said' where nothing that the law and all that it calls make is longer than what came in: it says more and counts as full. Else prove '..UptoSaid'. A law counts once. -/
mutual
def uptoBulk {H : Type} : DataW H → Nat
  | .lit (.string bytes) => bytes.length + 1
  | .lit _ => 1
  | .nil => 1
  | .ptr d => uptoBulk d + 1
  | .slice elems spare => uptoBulkAll elems + uptoBulkAll spare + 1
  | .agg parts => uptoBulkAll parts + 1
  | .iface _ d => uptoBulk d + 1
  | .map entries => uptoBulkEntries entries + 1
  | .held _ => 1
def uptoBulkAll {H : Type} : List (DataW H) → Nat
  | [] => 0
  | d :: r => uptoBulk d + uptoBulkAll r
def uptoBulkEntries {H : Type} : List (Lit × DataW H) → Nat
  | [] => 0
  | x :: r => uptoBulkEntry x + uptoBulkEntries r
def uptoBulkEntry {H : Type} : Lit × DataW H → Nat
  | (.string bytes, d) => bytes.length + uptoBulk d + 1
  | (_, d) => uptoBulk d + 1
 end
def uptoSmall : (H : Type) → List (DataW H) → Bool := fun _ ds => decide (uptoBulkAll ds ≤ 1048576)
def OpenSpec.upto (s : _root_.Go.ChangeSpec) : _root_.Go.OpenSpec := { _root_.Go.OpenSpec.ofChange s with cond := some uptoSmall }

/-- 'laws.FnRSLogs', WHERE WHAT IT READS IS OF BULK AT MOST 1048576: true; the input reads as it did. -/
def fnRSLogsUptoRow : OpenClaim := { program := "ythagfgfefkpikaa", sum := "e9dcc0d24ec752491aedae242b42b1572c4cc8f5aee9300235fc878481e05265", func := "given.example/pub-quietzone/laws.FnRSLogs", spec := "fnRSLogs", apart := false, narrowed := true }
def FnRSLogsUptoSaid : Prop := fnRSLogsUptoRow.holds Try.pinned (OpenSpec.upto fnRSLogsSpec)

/-- 'laws.FnRSMakes', WHERE WHAT IT READS IS OF BULK AT MOST 1048576: true; the input reads as it did. -/
def fnRSMakesUptoRow : OpenClaim := { program := "ythagfgfefkpikaa", sum := "e9dcc0d24ec752491aedae242b42b1572c4cc8f5aee9300235fc878481e05265", func := "given.example/pub-quietzone/laws.FnRSMakes", spec := "fnRSMakes", apart := false, narrowed := true }
def FnRSMakesUptoSaid : Prop := fnRSMakesUptoRow.holds Try.pinned (OpenSpec.upto fnRSMakesSpec)

/-- 'laws.FnRSSums', WHERE WHAT IT READS IS OF BULK AT MOST 1048576: true; the input reads as it did. -/
def fnRSSumsUptoRow : OpenClaim := { program := "ythagfgfefkpikaa", sum := "e9dcc0d24ec752491aedae242b42b1572c4cc8f5aee9300235fc878481e05265", func := "given.example/pub-quietzone/laws.FnRSSums", spec := "fnRSSums", apart := false, narrowed := true }
def FnRSSumsUptoSaid : Prop := fnRSSumsUptoRow.holds Try.pinned (OpenSpec.upto fnRSSumsSpec)

/-- 'laws.FnRSDivides', WHERE WHAT IT READS IS OF BULK AT MOST 1048576: true; the input reads as it did. -/
def fnRSDividesUptoRow : OpenClaim := { program := "ythagfgfefkpikaa", sum := "e9dcc0d24ec752491aedae242b42b1572c4cc8f5aee9300235fc878481e05265", func := "given.example/pub-quietzone/laws.FnRSDivides", spec := "fnRSDivides", apart := false, narrowed := true }
def FnRSDividesUptoSaid : Prop := fnRSDividesUptoRow.holds Try.pinned (OpenSpec.upto fnRSDividesSpec)

/-- 'laws.FnRSRoots', WHERE WHAT IT READS IS OF BULK AT MOST 1048576: true; the input reads as it did. -/
def fnRSRootsUptoRow : OpenClaim := { program := "ythagfgfefkpikaa", sum := "e9dcc0d24ec752491aedae242b42b1572c4cc8f5aee9300235fc878481e05265", func := "given.example/pub-quietzone/laws.FnRSRoots", spec := "fnRSRoots", apart := false, narrowed := true }
def FnRSRootsUptoSaid : Prop := fnRSRootsUptoRow.holds Try.pinned (OpenSpec.upto fnRSRootsSpec)

/-- 'laws.FnRSBothWays', WHERE WHAT IT READS IS OF BULK AT MOST 1048576: true; the input reads as it did. -/
def fnRSBothWaysUptoRow : OpenClaim := { program := "ythagfgfefkpikaa", sum := "e9dcc0d24ec752491aedae242b42b1572c4cc8f5aee9300235fc878481e05265", func := "given.example/pub-quietzone/laws.FnRSBothWays", spec := "fnRSBothWays", apart := false, narrowed := true }
def FnRSBothWaysUptoSaid : Prop := fnRSBothWaysUptoRow.holds Try.pinned (OpenSpec.upto fnRSBothWaysSpec)

end Rows
end Go.Proofs.Ythagfgfefkpikaa
