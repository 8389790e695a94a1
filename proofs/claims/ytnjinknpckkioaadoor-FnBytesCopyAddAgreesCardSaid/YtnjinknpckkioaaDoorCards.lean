/-
  DERIVED. GIVEN WITH THE SEED: THE CARDS: each row of YtnjinknpckkioaaDoorRows.lean that lists a variable, with what it lists TIED to the program's text (the seventh form; the later family's looks); each row that meets fmt, with fmt's text TOLD by the authors' own Lean function (tested against real Go, not proved from fmt's source: count such statements apart). THE CARD IS WHAT COUNTS. Prove the row's statement (the work); the ties are given (YtnjinknpckkioaaDoorTie.lean); close each card by the builder's one call (the guide's Derived/Test/ToyasCard.lean, 'card_holds'). Laid BY PROGRAM, IN A SANDBOX (cutbox-door.mjs). By AI agents, Wed Nov 11 2026. No macro, syntax, notation, axiom, sorry.
-/
import Derived.Test.YtnjinknpckkioaaDoorRows
import GoSem.ClaimSeven
namespace Go.Proofs.YtnjinknpckkioaaDoor
namespace Rows

/-- THE TIED CARD OF 'n002_13.FnBytesAddRefusesOtherTypes'. -/
def fnBytesAddRefusesOtherTypesCard : Claim7 := { stood := { row := fnBytesAddRefusesOtherTypesRow, standIns := [], harness := (true, "72f0962522fdf610b98ad95a1370e760903963862c16106d798f22f123eafc4f"), looks := true }, kinds := [], alts := [], laidByText := true, laidKinds := [.sentinel, .sentinel, .data], laidTests := true, laidLooks := .later }
def FnBytesAddRefusesOtherTypesCardSaid : Prop := Claim7.holds Tryd.pinned (.plain (OpenSpec.ofChange fnBytesAddRefusesOtherTypesSpec)) fnBytesAddRefusesOtherTypesCard

/-- THE TIED CARD OF 'n002_13.FnBytesAddConcat'. -/
def fnBytesAddConcatCard : Claim7 := { stood := { row := fnBytesAddConcatRow, standIns := [], harness := (true, "72f0962522fdf610b98ad95a1370e760903963862c16106d798f22f123eafc4f"), looks := true }, kinds := [], alts := [], laidByText := true, laidKinds := [.sentinel, .sentinel, .data], laidTests := true, laidLooks := .later }
def FnBytesAddConcatCardSaid : Prop := Claim7.holds Tryd.pinned (.plain (OpenSpec.ofChange fnBytesAddConcatSpec)) fnBytesAddConcatCard

/-- THE TIED CARD OF 'n002_13.FnBytesCopyAddAgrees'. -/
def fnBytesCopyAddAgreesCard : Claim7 := { stood := { row := fnBytesCopyAddAgreesRow, standIns := [], harness := (true, "72f0962522fdf610b98ad95a1370e760903963862c16106d798f22f123eafc4f"), looks := true }, kinds := [], alts := [], laidByText := true, laidKinds := [.sentinel, .sentinel, .data], laidTests := true, laidLooks := .later }
def FnBytesCopyAddAgreesCardSaid : Prop := Claim7.holds Tryd.pinned (.plain (OpenSpec.ofChange fnBytesCopyAddAgreesSpec)) fnBytesCopyAddAgreesCard

/-- THE SECOND FORM's CARD OF 'n002_13.FnBytesAddRefusesOtherTypes'. -/
def fnBytesAddRefusesOtherTypesUptoCard : Claim7 := { stood := { row := fnBytesAddRefusesOtherTypesUptoRow, standIns := [], harness := (true, "72f0962522fdf610b98ad95a1370e760903963862c16106d798f22f123eafc4f"), looks := true }, kinds := [], alts := [], laidByText := true, laidKinds := [.sentinel, .sentinel, .data], laidTests := true, laidLooks := .later }
def FnBytesAddRefusesOtherTypesUptoCardSaid : Prop := Claim7.holds Tryd.pinned (.plain (OpenSpec.upto fnBytesAddRefusesOtherTypesSpec)) fnBytesAddRefusesOtherTypesUptoCard

/-- THE SECOND FORM's CARD OF 'n002_13.FnBytesAddConcat'. -/
def fnBytesAddConcatUptoCard : Claim7 := { stood := { row := fnBytesAddConcatUptoRow, standIns := [], harness := (true, "72f0962522fdf610b98ad95a1370e760903963862c16106d798f22f123eafc4f"), looks := true }, kinds := [], alts := [], laidByText := true, laidKinds := [.sentinel, .sentinel, .data], laidTests := true, laidLooks := .later }
def FnBytesAddConcatUptoCardSaid : Prop := Claim7.holds Tryd.pinned (.plain (OpenSpec.upto fnBytesAddConcatSpec)) fnBytesAddConcatUptoCard

/-- THE SECOND FORM's CARD OF 'n002_13.FnBytesCopyAddAgrees'. -/
def fnBytesCopyAddAgreesUptoCard : Claim7 := { stood := { row := fnBytesCopyAddAgreesUptoRow, standIns := [], harness := (true, "72f0962522fdf610b98ad95a1370e760903963862c16106d798f22f123eafc4f"), looks := true }, kinds := [], alts := [], laidByText := true, laidKinds := [.sentinel, .sentinel, .data], laidTests := true, laidLooks := .later }
def FnBytesCopyAddAgreesUptoCardSaid : Prop := Claim7.holds Tryd.pinned (.plain (OpenSpec.upto fnBytesCopyAddAgreesSpec)) fnBytesCopyAddAgreesUptoCard
end Rows
end Go.Proofs.YtnjinknpckkioaaDoor
