/-
  DERIVED. GIVEN WITH THE SEED: THE CARDS: each row of YtaeinldkhjmleaaFmtRows.lean that lists a variable, with what it lists TIED to the program's text (the seventh form; the later family's looks); each row that meets fmt, with fmt's text TOLD by the authors' own Lean function (tested against real Go, not proved from fmt's source: count such statements apart). THE CARD IS WHAT COUNTS. Prove the row's statement (the work); the ties are given (YtaeinldkhjmleaaFmtTie.lean); close each card by the builder's one call (the guide's Derived/Test/ToyasCard.lean, 'card_holds'). Laid BY PROGRAM, IN A SANDBOX (cutbox-door.mjs). By AI agents, Wed Nov 11 2026. No macro, syntax, notation, axiom, sorry.
-/
import Derived.Test.YtaeinldkhjmleaaFmtRows
import GoSem.ClaimSeven
namespace Go.Proofs.YtaeinldkhjmleaaFmt
namespace Rows

/-- THE TOLD CARD OF 'n002_116.FnImmutableArrayStringIsBracketedDecimalList'. -/
def fnImmutableArrayStringIsBracketedDecimalListCard : Claim7 := { stood := { row := fnImmutableArrayStringIsBracketedDecimalListRow, standIns := [], harness := (true, "bbfa0a88af30547c5f4522227e648d9ae4aa47645b873958cd93b9c6055b339b"), looks := true }, told := true, goes := false }
def FnImmutableArrayStringIsBracketedDecimalListToldSaid : Prop := Claim7.holds Tryf.pinned (.plain (OpenSpec.ofChange fnImmutableArrayStringIsBracketedDecimalListSpec)) fnImmutableArrayStringIsBracketedDecimalListCard
/-- ITS FALSE NEIGHBOUR. Refute it at one input. -/
def FnImmutableArrayStringIsBracketedDecimalListToldWrongFalsely : Prop := Claim7.holds Tryf.pinned (.plain (OpenSpec.ofChange fnImmutableArrayStringIsBracketedDecimalListWrong)) fnImmutableArrayStringIsBracketedDecimalListCard

/-- THE TOLD AND TIED CARD OF 'n002_116.FnImmutableArrayStringAgreesWithArrayAndCopy'. -/
def fnImmutableArrayStringAgreesWithArrayAndCopyCard : Claim7 := { stood := { row := fnImmutableArrayStringAgreesWithArrayAndCopyRow, standIns := [], harness := (true, "bbfa0a88af30547c5f4522227e648d9ae4aa47645b873958cd93b9c6055b339b"), looks := true }, told := true, laidByText := true, laidKinds := [.sentinel], laidTests := true, laidLooks := .later, goes := false }
def FnImmutableArrayStringAgreesWithArrayAndCopyToldSaid : Prop := Claim7.holds Tryf.pinned (.plain (OpenSpec.ofChange fnImmutableArrayStringAgreesWithArrayAndCopySpec)) fnImmutableArrayStringAgreesWithArrayAndCopyCard
/-- ITS FALSE NEIGHBOUR. Refute it at one input. -/
def FnImmutableArrayStringAgreesWithArrayAndCopyToldWrongFalsely : Prop := Claim7.holds Tryf.pinned (.plain (OpenSpec.ofChange fnImmutableArrayStringAgreesWithArrayAndCopyWrong)) fnImmutableArrayStringAgreesWithArrayAndCopyCard
end Rows
end Go.Proofs.YtaeinldkhjmleaaFmt
