/-
  DERIVED. GIVEN WITH THE SEED: THE CARDS: each row of YtfpjkkjhdblmkaaDoorRows.lean that lists a variable, with what it lists TIED to the program's text (the seventh form; the later family's looks); each row that meets fmt, with fmt's text TOLD by the authors' own Lean function (tested against real Go, not proved from fmt's source: count such statements apart). THE CARD IS WHAT COUNTS. Prove the row's statement (the work); the ties are given (YtfpjkkjhdblmkaaDoorTie.lean); close each card by the builder's one call (the guide's Derived/Test/ToyasCard.lean, 'card_holds'). Laid BY PROGRAM, IN A SANDBOX (cutbox-door.mjs). By AI agents, Wed Nov 11 2026. No macro, syntax, notation, axiom, sorry.
-/
import Derived.Test.YtfpjkkjhdblmkaaDoorRows
import GoSem.ClaimSeven
namespace Go.Proofs.YtfpjkkjhdblmkaaDoor
namespace Rows

/-- THE TIED CARD OF 'n002_100.FnIntegerRoundTrip'. -/
def fnIntegerRoundTripCard : Claim7 := { stood := { row := fnIntegerRoundTripRow, standIns := [], harness := (true, "1651f933f17993d2ec29a52f14b3b9eaf3fadfe6b3d377bb416e24b256d33490"), looks := false }, kinds := [], alts := [], laidByText := true, laidKinds := [.sentinel, .data], laidTests := true, laidLooks := .later }
def FnIntegerRoundTripCardSaid : Prop := Claim7.holds Tryd.pinned (.plain (OpenSpec.ofChange fnIntegerRoundTripSpec)) fnIntegerRoundTripCard

/-- THE TIED CARD OF 'n002_100.FnUnicodeAgreesWithHexInteger'. -/
def fnUnicodeAgreesWithHexIntegerCard : Claim7 := { stood := { row := fnUnicodeAgreesWithHexIntegerRow, standIns := [], harness := (true, "1651f933f17993d2ec29a52f14b3b9eaf3fadfe6b3d377bb416e24b256d33490"), looks := false }, kinds := [], alts := [], laidByText := true, laidKinds := [.sentinel, .data, .pinned, .pinned, .pinned, .pinned], laidTests := true, laidLooks := .later }
def FnUnicodeAgreesWithHexIntegerCardSaid : Prop := Claim7.holds Tryd.pinned (.plain (OpenSpec.ofChange fnUnicodeAgreesWithHexIntegerSpec)) fnUnicodeAgreesWithHexIntegerCard

/-- THE TIED CARD OF 'n002_100.FnIntegerSpec'. -/
def fnIntegerSpecCard : Claim7 := { stood := { row := fnIntegerSpecRow, standIns := [], harness := (true, "1651f933f17993d2ec29a52f14b3b9eaf3fadfe6b3d377bb416e24b256d33490"), looks := false }, kinds := [], alts := [], laidByText := true, laidKinds := [.sentinel, .data], laidTests := true, laidLooks := .later }
def FnIntegerSpecCardSaid : Prop := Claim7.holds Tryd.pinned (.plain (OpenSpec.ofChange fnIntegerSpecSpec)) fnIntegerSpecCard

/-- THE TIED CARD OF 'n002_100.FnUnicodeSpec'. -/
def fnUnicodeSpecCard : Claim7 := { stood := { row := fnUnicodeSpecRow, standIns := [], harness := (true, "1651f933f17993d2ec29a52f14b3b9eaf3fadfe6b3d377bb416e24b256d33490"), looks := false }, kinds := [], alts := [], laidByText := true, laidKinds := [.sentinel, .data, .pinned, .pinned, .pinned, .pinned], laidTests := true, laidLooks := .later }
def FnUnicodeSpecCardSaid : Prop := Claim7.holds Tryd.pinned (.plain (OpenSpec.ofChange fnUnicodeSpecSpec)) fnUnicodeSpecCard

/-- THE SECOND FORM's CARD OF 'n002_100.FnIntegerRoundTrip'. -/
def fnIntegerRoundTripUptoCard : Claim7 := { stood := { row := fnIntegerRoundTripUptoRow, standIns := [], harness := (true, "1651f933f17993d2ec29a52f14b3b9eaf3fadfe6b3d377bb416e24b256d33490"), looks := false }, kinds := [], alts := [], laidByText := true, laidKinds := [.sentinel, .data], laidTests := true, laidLooks := .later }
def FnIntegerRoundTripUptoCardSaid : Prop := Claim7.holds Tryd.pinned (.plain (OpenSpec.upto fnIntegerRoundTripSpec)) fnIntegerRoundTripUptoCard

/-- THE SECOND FORM's CARD OF 'n002_100.FnUnicodeAgreesWithHexInteger'. -/
def fnUnicodeAgreesWithHexIntegerUptoCard : Claim7 := { stood := { row := fnUnicodeAgreesWithHexIntegerUptoRow, standIns := [], harness := (true, "1651f933f17993d2ec29a52f14b3b9eaf3fadfe6b3d377bb416e24b256d33490"), looks := false }, kinds := [], alts := [], laidByText := true, laidKinds := [.sentinel, .data, .pinned, .pinned, .pinned, .pinned], laidTests := true, laidLooks := .later }
def FnUnicodeAgreesWithHexIntegerUptoCardSaid : Prop := Claim7.holds Tryd.pinned (.plain (OpenSpec.upto fnUnicodeAgreesWithHexIntegerSpec)) fnUnicodeAgreesWithHexIntegerUptoCard

/-- THE SECOND FORM's CARD OF 'n002_100.FnIntegerSpec'. -/
def fnIntegerSpecUptoCard : Claim7 := { stood := { row := fnIntegerSpecUptoRow, standIns := [], harness := (true, "1651f933f17993d2ec29a52f14b3b9eaf3fadfe6b3d377bb416e24b256d33490"), looks := false }, kinds := [], alts := [], laidByText := true, laidKinds := [.sentinel, .data], laidTests := true, laidLooks := .later }
def FnIntegerSpecUptoCardSaid : Prop := Claim7.holds Tryd.pinned (.plain (OpenSpec.upto fnIntegerSpecSpec)) fnIntegerSpecUptoCard

/-- THE SECOND FORM's CARD OF 'n002_100.FnUnicodeSpec'. -/
def fnUnicodeSpecUptoCard : Claim7 := { stood := { row := fnUnicodeSpecUptoRow, standIns := [], harness := (true, "1651f933f17993d2ec29a52f14b3b9eaf3fadfe6b3d377bb416e24b256d33490"), looks := false }, kinds := [], alts := [], laidByText := true, laidKinds := [.sentinel, .data, .pinned, .pinned, .pinned, .pinned], laidTests := true, laidLooks := .later }
def FnUnicodeSpecUptoCardSaid : Prop := Claim7.holds Tryd.pinned (.plain (OpenSpec.upto fnUnicodeSpecSpec)) fnUnicodeSpecUptoCard
end Rows
end Go.Proofs.YtfpjkkjhdblmkaaDoor
