/-
  DERIVED. GIVEN WITH THE SEED: THE CARDS: each row of YtjnoodilpffbiaaDoorRows.lean that lists a variable, with what it lists TIED to the program's text (the seventh form; the later family's looks); each row that meets fmt, with fmt's text TOLD by the authors' own Lean function (tested against real Go, not proved from fmt's source: count such statements apart). THE CARD IS WHAT COUNTS. Prove the row's statement (the work); the ties are given (YtjnoodilpffbiaaDoorTie.lean); close each card by the builder's one call (the guide's Derived/Test/ToyasCard.lean, 'card_holds'). Laid BY PROGRAM, IN A SANDBOX (cutbox-door.mjs). By AI agents, Wed Nov 11 2026. No macro, syntax, notation, axiom, sorry.
-/
import Derived.Test.YtjnoodilpffbiaaDoorRows
import GoSem.ClaimSeven
namespace Go.Proofs.YtjnoodilpffbiaaDoor
namespace Rows

/-- THE TIED CARD OF 'n002_125.FnMakeInstructionReadOperandsRoundTrip'. -/
def fnMakeInstructionReadOperandsRoundTripCard : Claim7 := { stood := { row := fnMakeInstructionReadOperandsRoundTripRow, standIns := [], harness := (true, "01040d80e77aecc216a2f2ada5cd38f423d09e76d250375d6aa0ad6c8bae35ab"), looks := false }, kinds := [], alts := [], laidByText := true, laidKinds := [.widerDeep], laidTests := true, laidLooks := .later }
def FnMakeInstructionReadOperandsRoundTripCardSaid : Prop := Claim7.holds Tryd.pinned (.plain (OpenSpec.ofChange fnMakeInstructionReadOperandsRoundTripSpec)) fnMakeInstructionReadOperandsRoundTripCard

/-- THE TIED CARD OF 'n002_125.FnMakeInstructionExactBytes'. -/
def fnMakeInstructionExactBytesCard : Claim7 := { stood := { row := fnMakeInstructionExactBytesRow, standIns := [], harness := (true, "01040d80e77aecc216a2f2ada5cd38f423d09e76d250375d6aa0ad6c8bae35ab"), looks := false }, kinds := [], alts := [], laidByText := true, laidKinds := [.widerDeep], laidTests := true, laidLooks := .later }
def FnMakeInstructionExactBytesCardSaid : Prop := Claim7.holds Tryd.pinned (.plain (OpenSpec.ofChange fnMakeInstructionExactBytesSpec)) fnMakeInstructionExactBytesCard

/-- THE SECOND FORM's CARD OF 'n002_125.FnMakeInstructionReadOperandsRoundTrip'. -/
def fnMakeInstructionReadOperandsRoundTripUptoCard : Claim7 := { stood := { row := fnMakeInstructionReadOperandsRoundTripUptoRow, standIns := [], harness := (true, "01040d80e77aecc216a2f2ada5cd38f423d09e76d250375d6aa0ad6c8bae35ab"), looks := false }, kinds := [], alts := [], laidByText := true, laidKinds := [.widerDeep], laidTests := true, laidLooks := .later }
def FnMakeInstructionReadOperandsRoundTripUptoCardSaid : Prop := Claim7.holds Tryd.pinned (.plain (OpenSpec.upto fnMakeInstructionReadOperandsRoundTripSpec)) fnMakeInstructionReadOperandsRoundTripUptoCard

/-- THE SECOND FORM's CARD OF 'n002_125.FnMakeInstructionExactBytes'. -/
def fnMakeInstructionExactBytesUptoCard : Claim7 := { stood := { row := fnMakeInstructionExactBytesUptoRow, standIns := [], harness := (true, "01040d80e77aecc216a2f2ada5cd38f423d09e76d250375d6aa0ad6c8bae35ab"), looks := false }, kinds := [], alts := [], laidByText := true, laidKinds := [.widerDeep], laidTests := true, laidLooks := .later }
def FnMakeInstructionExactBytesUptoCardSaid : Prop := Claim7.holds Tryd.pinned (.plain (OpenSpec.upto fnMakeInstructionExactBytesSpec)) fnMakeInstructionExactBytesUptoCard
end Rows
end Go.Proofs.YtjnoodilpffbiaaDoor
