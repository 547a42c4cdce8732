/-
  DERIVED. GIVEN WITH THE SEED: THE CARDS: each row of YthnepajhiialpaaDoorRows.lean that lists a variable, with what it lists TIED to the program's text (the seventh form; the later family's looks); each row that meets fmt, with fmt's text TOLD by the authors' own Lean function (tested against real Go, not proved from fmt's source: count such statements apart). THE CARD IS WHAT COUNTS. Prove the row's statement (the work); the ties are given (YthnepajhiialpaaDoorTie.lean); close each card by the builder's one call (the guide's Derived/Test/ToyasCard.lean, 'card_holds'). Laid BY PROGRAM, IN A SANDBOX (cutbox-door.mjs). By AI agents, Wed Nov 11 2026. No macro, syntax, notation, axiom, sorry.
-/
import Derived.Test.YthnepajhiialpaaDoorRows
import GoSem.ClaimSeven
namespace Go.Proofs.YthnepajhiialpaaDoor
namespace Rows

/-- THE TIED CARD OF 'laws.FnDMAscii'. -/
def fnDMAsciiCard : Claim7 := { stood := { row := fnDMAsciiRow, standIns := [], harness := (true, "e0e72e744b4182e457b3dc300ecb78dd358badf05b09c51229d5e7320f905ae5"), looks := false }, kinds := [], alts := [], laidByText := true, laidKinds := [.data, .data, .data], laidTests := true, laidLooks := .later }
def FnDMAsciiCardSaid : Prop := Claim7.holds Tryd.pinned (.plain (OpenSpec.ofChange fnDMAsciiSpec)) fnDMAsciiCard

/-- THE TIED CARD OF 'laws.FnDMX12'. -/
def fnDMX12Card : Claim7 := { stood := { row := fnDMX12Row, standIns := [], harness := (true, "e0e72e744b4182e457b3dc300ecb78dd358badf05b09c51229d5e7320f905ae5"), looks := false }, kinds := [], alts := [], laidByText := true, laidKinds := [.data, .data, .data], laidTests := true, laidLooks := .later }
def FnDMX12CardSaid : Prop := Claim7.holds Tryd.pinned (.plain (OpenSpec.ofChange fnDMX12Spec)) fnDMX12Card

/-- THE SECOND FORM's CARD OF 'laws.FnDMAscii'. -/
def fnDMAsciiUptoCard : Claim7 := { stood := { row := fnDMAsciiUptoRow, standIns := [], harness := (true, "e0e72e744b4182e457b3dc300ecb78dd358badf05b09c51229d5e7320f905ae5"), looks := false }, kinds := [], alts := [], laidByText := true, laidKinds := [.data, .data, .data], laidTests := true, laidLooks := .later }
def FnDMAsciiUptoCardSaid : Prop := Claim7.holds Tryd.pinned (.plain (OpenSpec.upto fnDMAsciiSpec)) fnDMAsciiUptoCard

/-- THE SECOND FORM's CARD OF 'laws.FnDMX12'. -/
def fnDMX12UptoCard : Claim7 := { stood := { row := fnDMX12UptoRow, standIns := [], harness := (true, "e0e72e744b4182e457b3dc300ecb78dd358badf05b09c51229d5e7320f905ae5"), looks := false }, kinds := [], alts := [], laidByText := true, laidKinds := [.data, .data, .data], laidTests := true, laidLooks := .later }
def FnDMX12UptoCardSaid : Prop := Claim7.holds Tryd.pinned (.plain (OpenSpec.upto fnDMX12Spec)) fnDMX12UptoCard
end Rows
end Go.Proofs.YthnepajhiialpaaDoor
