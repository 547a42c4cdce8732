/-
  DERIVED. GIVEN WITH THE SEED: THE CARDS: each row of YtiielblnmfeapaaGreatDoorRows.lean that lists a variable, with what it lists TIED to the program's text (the seventh form; the later family's looks); each row that meets fmt, with fmt's text TOLD by the authors' own Lean function (tested against real Go, not proved from fmt's source: count such statements apart). THE CARD IS WHAT COUNTS. Prove the row's statement (the work); the ties are given (YtiielblnmfeapaaGreatDoorTie.lean); close each card by the builder's one call (the guide's Derived/Test/ToyasCard.lean, 'card_holds'). Laid BY PROGRAM, IN A SANDBOX (cutbox-door.mjs). By AI agents, Wed Nov 11 2026. No macro, syntax, notation, axiom, sorry.
-/
import Derived.Test.YtiielblnmfeapaaGreatDoorRows
import GoSem.ClaimSeven
namespace Go.Proofs.YtiielblnmfeapaaGreatDoor
namespace Rows

/-- THE TIED CARD OF 'laws.FnAZReads'. -/
def fnAZReadsCard : Claim7 := { stood := { row := fnAZReadsRow, standIns := [], harness := (true, "e1288e0b5f73cf65fd8471ef496a35e98619fa8e4259ab962e2e3e1e75ad4d80"), looks := false }, kinds := [], alts := [], laidByText := true, laidKinds := [.data, .data, .data], laidTests := true, laidLooks := .later }
def FnAZReadsCardSaid : Prop := Claim7.holds Tryz.pinned (.plain (OpenSpec.ofChange fnAZReadsSpec)) fnAZReadsCard

/-- THE SECOND FORM's CARD OF 'laws.FnAZReads'. -/
def fnAZReadsUptoCard : Claim7 := { stood := { row := fnAZReadsUptoRow, standIns := [], harness := (true, "e1288e0b5f73cf65fd8471ef496a35e98619fa8e4259ab962e2e3e1e75ad4d80"), looks := false }, kinds := [], alts := [], laidByText := true, laidKinds := [.data, .data, .data], laidTests := true, laidLooks := .later }
def FnAZReadsUptoCardSaid : Prop := Claim7.holds Tryz.pinned (.plain (OpenSpec.upto fnAZReadsSpec)) fnAZReadsUptoCard
end Rows
end Go.Proofs.YtiielblnmfeapaaGreatDoor
