/-
  DERIVED. GIVEN WITH THE SEED: THE CARDS: each row of YtlekmfkcbgkfgaaDoorRows.lean that lists a variable, with what it lists TIED to the program's text (the seventh form; the later family's looks); each row that meets fmt, with fmt's text TOLD by the authors' own Lean function (tested against real Go, not proved from fmt's source: count such statements apart). THE CARD IS WHAT COUNTS. Prove the row's statement (the work); the ties are given (YtlekmfkcbgkfgaaDoorTie.lean); close each card by the builder's one call (the guide's Derived/Test/ToyasCard.lean, 'card_holds'). Laid BY PROGRAM, IN A SANDBOX (cutbox-door.mjs). By AI agents, Wed Nov 11 2026. No macro, syntax, notation, axiom, sorry.
-/
import Derived.Test.YtlekmfkcbgkfgaaDoorRows
import GoSem.ClaimSeven
namespace Go.Proofs.YtlekmfkcbgkfgaaDoor
namespace Rows

/-- THE TIED CARD OF 'n002_149.FnFmtQPlusIsPrintableASCII'. -/
def fnFmtQPlusIsPrintableASCIICard : Claim7 := { stood := { row := fnFmtQPlusIsPrintableASCIIRow, standIns := [], harness := (true, "79be867f1a9e525707cd853108650221cb38683fa3dad14ccce7d77cec7b03c7"), looks := false }, kinds := [], alts := [], laidByText := true, laidKinds := [.data, .sentinel, .data, .pinned, .pinned, .pinned, .pinned, .pinned, .pinned], laidTests := true, laidLooks := .later }
def FnFmtQPlusIsPrintableASCIICardSaid : Prop := Claim7.holds Tryd.pinned (.plain (OpenSpec.ofChange fnFmtQPlusIsPrintableASCIISpec)) fnFmtQPlusIsPrintableASCIICard

/-- THE SECOND FORM's CARD OF 'n002_149.FnFmtQPlusIsPrintableASCII'. -/
def fnFmtQPlusIsPrintableASCIIUptoCard : Claim7 := { stood := { row := fnFmtQPlusIsPrintableASCIIUptoRow, standIns := [], harness := (true, "79be867f1a9e525707cd853108650221cb38683fa3dad14ccce7d77cec7b03c7"), looks := false }, kinds := [], alts := [], laidByText := true, laidKinds := [.data, .sentinel, .data, .pinned, .pinned, .pinned, .pinned, .pinned, .pinned], laidTests := true, laidLooks := .later }
def FnFmtQPlusIsPrintableASCIIUptoCardSaid : Prop := Claim7.holds Tryd.pinned (.plain (OpenSpec.upto fnFmtQPlusIsPrintableASCIISpec)) fnFmtQPlusIsPrintableASCIIUptoCard
end Rows
end Go.Proofs.YtlekmfkcbgkfgaaDoor
