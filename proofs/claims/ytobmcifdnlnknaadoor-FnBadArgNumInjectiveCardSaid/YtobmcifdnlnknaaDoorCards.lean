/-
  DERIVED. GIVEN WITH THE SEED: THE CARDS: each row of YtobmcifdnlnknaaDoorRows.lean that lists a variable, with what it lists TIED to the program's text (the seventh form; the later family's looks); each row that meets fmt, with fmt's text TOLD by the authors' own Lean function (tested against real Go, not proved from fmt's source: count such statements apart). THE CARD IS WHAT COUNTS. Prove the row's statement (the work); the ties are given (YtobmcifdnlnknaaDoorTie.lean); close each card by the builder's one call (the guide's Derived/Test/ToyasCard.lean, 'card_holds'). Laid BY PROGRAM, IN A SANDBOX (cutbox-door.mjs). By AI agents, Wed Nov 11 2026. No macro, syntax, notation, axiom, sorry.
-/
import Derived.Test.YtobmcifdnlnknaaDoorRows
import GoSem.ClaimSeven
namespace Go.Proofs.YtobmcifdnlnknaaDoor
namespace Rows

/-- THE TIED CARD OF 'n002_113.FnBadArgNumExact'. -/
def fnBadArgNumExactCard : Claim7 := { stood := { row := fnBadArgNumExactRow, standIns := [], harness := (true, "f506df1a6e87604f811b9e54d12e6690a93ba850428cf3c2d867dcd8d9de37e9"), looks := true }, kinds := [], alts := [], laidByText := true, laidKinds := [.sentinel, .data], laidTests := true, laidLooks := .later }
def FnBadArgNumExactCardSaid : Prop := Claim7.holds Tryd.pinned (.plain (OpenSpec.ofChange fnBadArgNumExactSpec)) fnBadArgNumExactCard

/-- THE TIED CARD OF 'n002_113.FnMissingArgExact'. -/
def fnMissingArgExactCard : Claim7 := { stood := { row := fnMissingArgExactRow, standIns := [], harness := (true, "f506df1a6e87604f811b9e54d12e6690a93ba850428cf3c2d867dcd8d9de37e9"), looks := true }, kinds := [], alts := [], laidByText := true, laidKinds := [.sentinel, .data], laidTests := true, laidLooks := .later }
def FnMissingArgExactCardSaid : Prop := Claim7.holds Tryd.pinned (.plain (OpenSpec.ofChange fnMissingArgExactSpec)) fnMissingArgExactCard

/-- THE TIED CARD OF 'n002_113.FnBadArgNumInjective'. -/
def fnBadArgNumInjectiveCard : Claim7 := { stood := { row := fnBadArgNumInjectiveRow, standIns := [], harness := (true, "f506df1a6e87604f811b9e54d12e6690a93ba850428cf3c2d867dcd8d9de37e9"), looks := true }, kinds := [], alts := [], laidByText := true, laidKinds := [.sentinel, .data], laidTests := true, laidLooks := .later }
def FnBadArgNumInjectiveCardSaid : Prop := Claim7.holds Tryd.pinned (.plain (OpenSpec.ofChange fnBadArgNumInjectiveSpec)) fnBadArgNumInjectiveCard

/-- THE TIED CARD OF 'n002_143.FnBinaryOpRefusalInheritedByMapUndefinedError'. -/
def fnBinaryOpRefusalInheritedByMapUndefinedErrorCard : Claim7 := { stood := { row := fnBinaryOpRefusalInheritedByMapUndefinedErrorRow, standIns := [], harness := (true, "f506df1a6e87604f811b9e54d12e6690a93ba850428cf3c2d867dcd8d9de37e9"), looks := true }, kinds := [], alts := [], laidByText := true, laidKinds := [.sentinel], laidTests := true, laidLooks := .later }
def FnBinaryOpRefusalInheritedByMapUndefinedErrorCardSaid : Prop := Claim7.holds Tryd.pinned (.plain (OpenSpec.ofChange fnBinaryOpRefusalInheritedByMapUndefinedErrorSpec)) fnBinaryOpRefusalInheritedByMapUndefinedErrorCard

/-- THE SECOND FORM's CARD OF 'n002_113.FnBadArgNumExact'. -/
def fnBadArgNumExactUptoCard : Claim7 := { stood := { row := fnBadArgNumExactUptoRow, standIns := [], harness := (true, "f506df1a6e87604f811b9e54d12e6690a93ba850428cf3c2d867dcd8d9de37e9"), looks := true }, kinds := [], alts := [], laidByText := true, laidKinds := [.sentinel, .data], laidTests := true, laidLooks := .later }
def FnBadArgNumExactUptoCardSaid : Prop := Claim7.holds Tryd.pinned (.plain (OpenSpec.upto fnBadArgNumExactSpec)) fnBadArgNumExactUptoCard

/-- THE SECOND FORM's CARD OF 'n002_113.FnMissingArgExact'. -/
def fnMissingArgExactUptoCard : Claim7 := { stood := { row := fnMissingArgExactUptoRow, standIns := [], harness := (true, "f506df1a6e87604f811b9e54d12e6690a93ba850428cf3c2d867dcd8d9de37e9"), looks := true }, kinds := [], alts := [], laidByText := true, laidKinds := [.sentinel, .data], laidTests := true, laidLooks := .later }
def FnMissingArgExactUptoCardSaid : Prop := Claim7.holds Tryd.pinned (.plain (OpenSpec.upto fnMissingArgExactSpec)) fnMissingArgExactUptoCard

/-- THE SECOND FORM's CARD OF 'n002_113.FnBadArgNumInjective'. -/
def fnBadArgNumInjectiveUptoCard : Claim7 := { stood := { row := fnBadArgNumInjectiveUptoRow, standIns := [], harness := (true, "f506df1a6e87604f811b9e54d12e6690a93ba850428cf3c2d867dcd8d9de37e9"), looks := true }, kinds := [], alts := [], laidByText := true, laidKinds := [.sentinel, .data], laidTests := true, laidLooks := .later }
def FnBadArgNumInjectiveUptoCardSaid : Prop := Claim7.holds Tryd.pinned (.plain (OpenSpec.upto fnBadArgNumInjectiveSpec)) fnBadArgNumInjectiveUptoCard

/-- THE SECOND FORM's CARD OF 'n002_143.FnBinaryOpRefusalInheritedByMapUndefinedError'. -/
def fnBinaryOpRefusalInheritedByMapUndefinedErrorUptoCard : Claim7 := { stood := { row := fnBinaryOpRefusalInheritedByMapUndefinedErrorUptoRow, standIns := [], harness := (true, "f506df1a6e87604f811b9e54d12e6690a93ba850428cf3c2d867dcd8d9de37e9"), looks := true }, kinds := [], alts := [], laidByText := true, laidKinds := [.sentinel], laidTests := true, laidLooks := .later }
def FnBinaryOpRefusalInheritedByMapUndefinedErrorUptoCardSaid : Prop := Claim7.holds Tryd.pinned (.plain (OpenSpec.upto fnBinaryOpRefusalInheritedByMapUndefinedErrorSpec)) fnBinaryOpRefusalInheritedByMapUndefinedErrorUptoCard
end Rows
end Go.Proofs.YtobmcifdnlnknaaDoor
