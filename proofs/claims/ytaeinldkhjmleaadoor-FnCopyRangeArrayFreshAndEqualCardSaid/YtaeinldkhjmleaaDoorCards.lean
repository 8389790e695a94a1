/-
  DERIVED. GIVEN WITH THE SEED: THE CARDS: each row of YtaeinldkhjmleaaDoorRows.lean that lists a variable, with what it lists TIED to the program's text (the seventh form; the later family's looks); each row that meets fmt, with fmt's text TOLD by the authors' own Lean function (tested against real Go, not proved from fmt's source: count such statements apart). THE CARD IS WHAT COUNTS. Prove the row's statement (the work); the ties are given (YtaeinldkhjmleaaDoorTie.lean); close each card by the builder's one call (the guide's Derived/Test/ToyasCard.lean, 'card_holds'). Laid BY PROGRAM, IN A SANDBOX (cutbox-door.mjs). By AI agents, Wed Nov 11 2026. No macro, syntax, notation, axiom, sorry.
-/
import Derived.Test.YtaeinldkhjmleaaDoorRows
import GoSem.ClaimSeven
namespace Go.Proofs.YtaeinldkhjmleaaDoor
namespace Rows

/-- THE TIED CARD OF 'n002_116.FnImmutableArrayTypeNameFixed'. -/
def fnImmutableArrayTypeNameFixedCard : Claim7 := { stood := { row := fnImmutableArrayTypeNameFixedRow, standIns := [], harness := (true, "dec35b4558a8f7851702c1d905fb30366d8f9db4e145fd0d01f705889146751b"), looks := true }, kinds := [], alts := [], laidByText := true, laidKinds := [.sentinel], laidTests := true, laidLooks := .later }
def FnImmutableArrayTypeNameFixedCardSaid : Prop := Claim7.holds Tryd.pinned (.plain (OpenSpec.ofChange fnImmutableArrayTypeNameFixedSpec)) fnImmutableArrayTypeNameFixedCard

/-- THE TIED CARD OF 'n002_131.FnCopyRangeArrayFreshAndEqual'. -/
def fnCopyRangeArrayFreshAndEqualCard : Claim7 := { stood := { row := fnCopyRangeArrayFreshAndEqualRow, standIns := [], harness := (true, "dec35b4558a8f7851702c1d905fb30366d8f9db4e145fd0d01f705889146751b"), looks := true }, kinds := [], alts := [], laidByText := true, laidKinds := [.sentinel], laidTests := true, laidLooks := .later }
def FnCopyRangeArrayFreshAndEqualCardSaid : Prop := Claim7.holds Tryd.pinned (.plain (OpenSpec.ofChange fnCopyRangeArrayFreshAndEqualSpec)) fnCopyRangeArrayFreshAndEqualCard

/-- THE SECOND FORM's CARD OF 'n002_116.FnImmutableArrayTypeNameFixed'. -/
def fnImmutableArrayTypeNameFixedUptoCard : Claim7 := { stood := { row := fnImmutableArrayTypeNameFixedUptoRow, standIns := [], harness := (true, "dec35b4558a8f7851702c1d905fb30366d8f9db4e145fd0d01f705889146751b"), looks := true }, kinds := [], alts := [], laidByText := true, laidKinds := [.sentinel], laidTests := true, laidLooks := .later }
def FnImmutableArrayTypeNameFixedUptoCardSaid : Prop := Claim7.holds Tryd.pinned (.plain (OpenSpec.upto fnImmutableArrayTypeNameFixedSpec)) fnImmutableArrayTypeNameFixedUptoCard

/-- THE SECOND FORM's CARD OF 'n002_131.FnCopyRangeArrayFreshAndEqual'. -/
def fnCopyRangeArrayFreshAndEqualUptoCard : Claim7 := { stood := { row := fnCopyRangeArrayFreshAndEqualUptoRow, standIns := [], harness := (true, "dec35b4558a8f7851702c1d905fb30366d8f9db4e145fd0d01f705889146751b"), looks := true }, kinds := [], alts := [], laidByText := true, laidKinds := [.sentinel], laidTests := true, laidLooks := .later }
def FnCopyRangeArrayFreshAndEqualUptoCardSaid : Prop := Claim7.holds Tryd.pinned (.plain (OpenSpec.upto fnCopyRangeArrayFreshAndEqualSpec)) fnCopyRangeArrayFreshAndEqualUptoCard
end Rows
end Go.Proofs.YtaeinldkhjmleaaDoor
