/-
  DERIVED. GIVEN WITH THE SEED: THE CARDS: each row of YtjnoodilpffbiaaFmtRows.lean that lists a variable, with what it lists TIED to the program's text (the seventh form; the later family's looks); each row that meets fmt, with fmt's text TOLD by the authors' own Lean function (tested against real Go, not proved from fmt's source: count such statements apart). THE CARD IS WHAT COUNTS. Prove the row's statement (the work); the ties are given (YtjnoodilpffbiaaFmtTie.lean); close each card by the builder's one call (the guide's Derived/Test/ToyasCard.lean, 'card_holds'). Laid BY PROGRAM, IN A SANDBOX (cutbox-door.mjs). By AI agents, Wed Nov 11 2026. No macro, syntax, notation, axiom, sorry.
-/
import Derived.Test.YtjnoodilpffbiaaFmtRows
import GoSem.ClaimSeven
namespace Go.Proofs.YtjnoodilpffbiaaFmt
namespace Rows

/-- THE TOLD AND TIED CARD OF 'n002_125.FnFormatInstructionsOneLinePerInstruction'. -/
def fnFormatInstructionsOneLinePerInstructionCard : Claim7 := { stood := { row := fnFormatInstructionsOneLinePerInstructionRow, standIns := [], harness := (true, "2829007849e29768cadc569336e43a781cd18a39fee4fb63cda09e30ef1d0583"), looks := false }, told := true, laidByText := true, laidKinds := [.data, .widerDeep], laidTests := true, laidLooks := .later, goes := false }
def FnFormatInstructionsOneLinePerInstructionToldSaid : Prop := Claim7.holds Tryf.pinned (.plain (OpenSpec.ofChange fnFormatInstructionsOneLinePerInstructionSpec)) fnFormatInstructionsOneLinePerInstructionCard
/-- ITS FALSE NEIGHBOUR. Refute it at one input. -/
def FnFormatInstructionsOneLinePerInstructionToldWrongFalsely : Prop := Claim7.holds Tryf.pinned (.plain (OpenSpec.ofChange fnFormatInstructionsOneLinePerInstructionWrong)) fnFormatInstructionsOneLinePerInstructionCard

/-- THE TOLD AND TIED CARD OF 'n002_125.FnFormatInstructionsSplitsAtBoundary'. -/
def fnFormatInstructionsSplitsAtBoundaryCard : Claim7 := { stood := { row := fnFormatInstructionsSplitsAtBoundaryRow, standIns := [], harness := (true, "2829007849e29768cadc569336e43a781cd18a39fee4fb63cda09e30ef1d0583"), looks := false }, told := true, laidByText := true, laidKinds := [.data, .widerDeep], laidTests := true, laidLooks := .later, goes := false }
def FnFormatInstructionsSplitsAtBoundaryToldSaid : Prop := Claim7.holds Tryf.pinned (.plain (OpenSpec.ofChange fnFormatInstructionsSplitsAtBoundarySpec)) fnFormatInstructionsSplitsAtBoundaryCard
/-- ITS FALSE NEIGHBOUR. Refute it at one input. -/
def FnFormatInstructionsSplitsAtBoundaryToldWrongFalsely : Prop := Claim7.holds Tryf.pinned (.plain (OpenSpec.ofChange fnFormatInstructionsSplitsAtBoundaryWrong)) fnFormatInstructionsSplitsAtBoundaryCard
end Rows
end Go.Proofs.YtjnoodilpffbiaaFmt
