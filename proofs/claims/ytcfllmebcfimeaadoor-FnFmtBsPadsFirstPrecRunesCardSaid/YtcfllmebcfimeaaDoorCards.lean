/-
  DERIVED. GIVEN WITH THE SEED: THE CARDS: each row of YtcfllmebcfimeaaDoorRows.lean that lists a variable, with what it lists TIED to the program's text (the seventh form; the later family's looks); each row that meets fmt, with fmt's text TOLD by the authors' own Lean function (tested against real Go, not proved from fmt's source: count such statements apart). THE CARD IS WHAT COUNTS. Prove the row's statement (the work); the ties are given (YtcfllmebcfimeaaDoorTie.lean); close each card by the builder's one call (the guide's Derived/Test/ToyasCard.lean, 'card_holds'). Laid BY PROGRAM, IN A SANDBOX (cutbox-door.mjs). By AI agents, Wed Nov 11 2026. No macro, syntax, notation, axiom, sorry.
-/
import Derived.Test.YtcfllmebcfimeaaDoorRows
import GoSem.ClaimSeven
namespace Go.Proofs.YtcfllmebcfimeaaDoor
namespace Rows

/-- THE TIED CARD OF 'n002_149.FnFmtBxAgreesWithFmtSx'. -/
def fnFmtBxAgreesWithFmtSxCard : Claim7 := { stood := { row := fnFmtBxAgreesWithFmtSxRow, standIns := [], harness := (true, "307a7a14df631aa003402481473100c4e508fcef1831aed5fba92742d40a66d7"), looks := false }, kinds := [], alts := [], laidByText := true, laidKinds := [.sentinel, .data], laidTests := true, laidLooks := .later }
def FnFmtBxAgreesWithFmtSxCardSaid : Prop := Claim7.holds Tryd.pinned (.plain (OpenSpec.ofChange fnFmtBxAgreesWithFmtSxSpec)) fnFmtBxAgreesWithFmtSxCard

/-- THE TIED CARD OF 'n002_149.FnFmtSxMatchesHexModel'. -/
def fnFmtSxMatchesHexModelCard : Claim7 := { stood := { row := fnFmtSxMatchesHexModelRow, standIns := [], harness := (true, "307a7a14df631aa003402481473100c4e508fcef1831aed5fba92742d40a66d7"), looks := false }, kinds := [], alts := [], laidByText := true, laidKinds := [.sentinel, .data], laidTests := true, laidLooks := .later }
def FnFmtSxMatchesHexModelCardSaid : Prop := Claim7.holds Tryd.pinned (.plain (OpenSpec.ofChange fnFmtSxMatchesHexModelSpec)) fnFmtSxMatchesHexModelCard

/-- THE TIED CARD OF 'n002_149.FnFmtSxPrecisionIsACut'. -/
def fnFmtSxPrecisionIsACutCard : Claim7 := { stood := { row := fnFmtSxPrecisionIsACutRow, standIns := [], harness := (true, "307a7a14df631aa003402481473100c4e508fcef1831aed5fba92742d40a66d7"), looks := false }, kinds := [], alts := [], laidByText := true, laidKinds := [.sentinel, .data], laidTests := true, laidLooks := .later }
def FnFmtSxPrecisionIsACutCardSaid : Prop := Claim7.holds Tryd.pinned (.plain (OpenSpec.ofChange fnFmtSxPrecisionIsACutSpec)) fnFmtSxPrecisionIsACutCard

/-- THE TIED CARD OF 'n002_149.FnFmtBxMatchesHexModel'. -/
def fnFmtBxMatchesHexModelCard : Claim7 := { stood := { row := fnFmtBxMatchesHexModelRow, standIns := [], harness := (true, "307a7a14df631aa003402481473100c4e508fcef1831aed5fba92742d40a66d7"), looks := false }, kinds := [], alts := [], laidByText := true, laidKinds := [.sentinel, .data], laidTests := true, laidLooks := .later }
def FnFmtBxMatchesHexModelCardSaid : Prop := Claim7.holds Tryd.pinned (.plain (OpenSpec.ofChange fnFmtBxMatchesHexModelSpec)) fnFmtBxMatchesHexModelCard

/-- THE TIED CARD OF 'n002_112.FnTruncateAgreesWithTruncateString'. -/
def fnTruncateAgreesWithTruncateStringCard : Claim7 := { stood := { row := fnTruncateAgreesWithTruncateStringRow, standIns := [], harness := (true, "307a7a14df631aa003402481473100c4e508fcef1831aed5fba92742d40a66d7"), looks := false }, kinds := [], alts := [], laidByText := true, laidKinds := [.data, .pinned], laidTests := true, laidLooks := .later }
def FnTruncateAgreesWithTruncateStringCardSaid : Prop := Claim7.holds Tryd.pinned (.plain (OpenSpec.ofChange fnTruncateAgreesWithTruncateStringSpec)) fnTruncateAgreesWithTruncateStringCard

/-- THE TIED CARD OF 'n002_112.FnFmtBsAgreesWithFmtS'. -/
def fnFmtBsAgreesWithFmtSCard : Claim7 := { stood := { row := fnFmtBsAgreesWithFmtSRow, standIns := [], harness := (true, "307a7a14df631aa003402481473100c4e508fcef1831aed5fba92742d40a66d7"), looks := false }, kinds := [], alts := [], laidByText := true, laidKinds := [.data, .sentinel, .data, .pinned], laidTests := true, laidLooks := .later }
def FnFmtBsAgreesWithFmtSCardSaid : Prop := Claim7.holds Tryd.pinned (.plain (OpenSpec.ofChange fnFmtBsAgreesWithFmtSSpec)) fnFmtBsAgreesWithFmtSCard

/-- THE TIED CARD OF 'n002_112.FnFmtSPadsFirstPrecRunes'. -/
def fnFmtSPadsFirstPrecRunesCard : Claim7 := { stood := { row := fnFmtSPadsFirstPrecRunesRow, standIns := [], harness := (true, "307a7a14df631aa003402481473100c4e508fcef1831aed5fba92742d40a66d7"), looks := false }, kinds := [], alts := [], laidByText := true, laidKinds := [.sentinel, .data], laidTests := true, laidLooks := .later }
def FnFmtSPadsFirstPrecRunesCardSaid : Prop := Claim7.holds Tryd.pinned (.plain (OpenSpec.ofChange fnFmtSPadsFirstPrecRunesSpec)) fnFmtSPadsFirstPrecRunesCard

/-- THE TIED CARD OF 'n002_112.FnFmtBsPadsFirstPrecRunes'. -/
def fnFmtBsPadsFirstPrecRunesCard : Claim7 := { stood := { row := fnFmtBsPadsFirstPrecRunesRow, standIns := [], harness := (true, "307a7a14df631aa003402481473100c4e508fcef1831aed5fba92742d40a66d7"), looks := false }, kinds := [], alts := [], laidByText := true, laidKinds := [.data, .sentinel, .data, .pinned], laidTests := true, laidLooks := .later }
def FnFmtBsPadsFirstPrecRunesCardSaid : Prop := Claim7.holds Tryd.pinned (.plain (OpenSpec.ofChange fnFmtBsPadsFirstPrecRunesSpec)) fnFmtBsPadsFirstPrecRunesCard

/-- THE TIED CARD OF 'n002_112.FnFmtSLargerPrecisionExtends'. -/
def fnFmtSLargerPrecisionExtendsCard : Claim7 := { stood := { row := fnFmtSLargerPrecisionExtendsRow, standIns := [], harness := (true, "307a7a14df631aa003402481473100c4e508fcef1831aed5fba92742d40a66d7"), looks := false }, kinds := [], alts := [], laidByText := true, laidKinds := [.sentinel, .data], laidTests := true, laidLooks := .later }
def FnFmtSLargerPrecisionExtendsCardSaid : Prop := Claim7.holds Tryd.pinned (.plain (OpenSpec.ofChange fnFmtSLargerPrecisionExtendsSpec)) fnFmtSLargerPrecisionExtendsCard

/-- THE TIED CARD OF 'n002_112.FnFmtSbxStringAgreesWithBytes'. -/
def fnFmtSbxStringAgreesWithBytesCard : Claim7 := { stood := { row := fnFmtSbxStringAgreesWithBytesRow, standIns := [], harness := (true, "307a7a14df631aa003402481473100c4e508fcef1831aed5fba92742d40a66d7"), looks := false }, kinds := [], alts := [], laidByText := true, laidKinds := [.sentinel, .data], laidTests := true, laidLooks := .later }
def FnFmtSbxStringAgreesWithBytesCardSaid : Prop := Claim7.holds Tryd.pinned (.plain (OpenSpec.ofChange fnFmtSbxStringAgreesWithBytesSpec)) fnFmtSbxStringAgreesWithBytesCard

/-- THE TIED CARD OF 'n002_112.FnFmtSbxHexModel'. -/
def fnFmtSbxHexModelCard : Claim7 := { stood := { row := fnFmtSbxHexModelRow, standIns := [], harness := (true, "307a7a14df631aa003402481473100c4e508fcef1831aed5fba92742d40a66d7"), looks := false }, kinds := [], alts := [], laidByText := true, laidKinds := [.sentinel, .data], laidTests := true, laidLooks := .later }
def FnFmtSbxHexModelCardSaid : Prop := Claim7.holds Tryd.pinned (.plain (OpenSpec.ofChange fnFmtSbxHexModelSpec)) fnFmtSbxHexModelCard

/-- THE SECOND FORM's CARD OF 'n002_149.FnFmtBxAgreesWithFmtSx'. -/
def fnFmtBxAgreesWithFmtSxUptoCard : Claim7 := { stood := { row := fnFmtBxAgreesWithFmtSxUptoRow, standIns := [], harness := (true, "307a7a14df631aa003402481473100c4e508fcef1831aed5fba92742d40a66d7"), looks := false }, kinds := [], alts := [], laidByText := true, laidKinds := [.sentinel, .data], laidTests := true, laidLooks := .later }
def FnFmtBxAgreesWithFmtSxUptoCardSaid : Prop := Claim7.holds Tryd.pinned (.plain (OpenSpec.upto fnFmtBxAgreesWithFmtSxSpec)) fnFmtBxAgreesWithFmtSxUptoCard

/-- THE SECOND FORM's CARD OF 'n002_149.FnFmtSxMatchesHexModel'. -/
def fnFmtSxMatchesHexModelUptoCard : Claim7 := { stood := { row := fnFmtSxMatchesHexModelUptoRow, standIns := [], harness := (true, "307a7a14df631aa003402481473100c4e508fcef1831aed5fba92742d40a66d7"), looks := false }, kinds := [], alts := [], laidByText := true, laidKinds := [.sentinel, .data], laidTests := true, laidLooks := .later }
def FnFmtSxMatchesHexModelUptoCardSaid : Prop := Claim7.holds Tryd.pinned (.plain (OpenSpec.upto fnFmtSxMatchesHexModelSpec)) fnFmtSxMatchesHexModelUptoCard

/-- THE SECOND FORM's CARD OF 'n002_149.FnFmtSxPrecisionIsACut'. -/
def fnFmtSxPrecisionIsACutUptoCard : Claim7 := { stood := { row := fnFmtSxPrecisionIsACutUptoRow, standIns := [], harness := (true, "307a7a14df631aa003402481473100c4e508fcef1831aed5fba92742d40a66d7"), looks := false }, kinds := [], alts := [], laidByText := true, laidKinds := [.sentinel, .data], laidTests := true, laidLooks := .later }
def FnFmtSxPrecisionIsACutUptoCardSaid : Prop := Claim7.holds Tryd.pinned (.plain (OpenSpec.upto fnFmtSxPrecisionIsACutSpec)) fnFmtSxPrecisionIsACutUptoCard

/-- THE SECOND FORM's CARD OF 'n002_149.FnFmtBxMatchesHexModel'. -/
def fnFmtBxMatchesHexModelUptoCard : Claim7 := { stood := { row := fnFmtBxMatchesHexModelUptoRow, standIns := [], harness := (true, "307a7a14df631aa003402481473100c4e508fcef1831aed5fba92742d40a66d7"), looks := false }, kinds := [], alts := [], laidByText := true, laidKinds := [.sentinel, .data], laidTests := true, laidLooks := .later }
def FnFmtBxMatchesHexModelUptoCardSaid : Prop := Claim7.holds Tryd.pinned (.plain (OpenSpec.upto fnFmtBxMatchesHexModelSpec)) fnFmtBxMatchesHexModelUptoCard

/-- THE SECOND FORM's CARD OF 'n002_112.FnTruncateAgreesWithTruncateString'. -/
def fnTruncateAgreesWithTruncateStringUptoCard : Claim7 := { stood := { row := fnTruncateAgreesWithTruncateStringUptoRow, standIns := [], harness := (true, "307a7a14df631aa003402481473100c4e508fcef1831aed5fba92742d40a66d7"), looks := false }, kinds := [], alts := [], laidByText := true, laidKinds := [.data, .pinned], laidTests := true, laidLooks := .later }
def FnTruncateAgreesWithTruncateStringUptoCardSaid : Prop := Claim7.holds Tryd.pinned (.plain (OpenSpec.upto fnTruncateAgreesWithTruncateStringSpec)) fnTruncateAgreesWithTruncateStringUptoCard

/-- THE SECOND FORM's CARD OF 'n002_112.FnFmtBsAgreesWithFmtS'. -/
def fnFmtBsAgreesWithFmtSUptoCard : Claim7 := { stood := { row := fnFmtBsAgreesWithFmtSUptoRow, standIns := [], harness := (true, "307a7a14df631aa003402481473100c4e508fcef1831aed5fba92742d40a66d7"), looks := false }, kinds := [], alts := [], laidByText := true, laidKinds := [.data, .sentinel, .data, .pinned], laidTests := true, laidLooks := .later }
def FnFmtBsAgreesWithFmtSUptoCardSaid : Prop := Claim7.holds Tryd.pinned (.plain (OpenSpec.upto fnFmtBsAgreesWithFmtSSpec)) fnFmtBsAgreesWithFmtSUptoCard

/-- THE SECOND FORM's CARD OF 'n002_112.FnFmtSPadsFirstPrecRunes'. -/
def fnFmtSPadsFirstPrecRunesUptoCard : Claim7 := { stood := { row := fnFmtSPadsFirstPrecRunesUptoRow, standIns := [], harness := (true, "307a7a14df631aa003402481473100c4e508fcef1831aed5fba92742d40a66d7"), looks := false }, kinds := [], alts := [], laidByText := true, laidKinds := [.sentinel, .data], laidTests := true, laidLooks := .later }
def FnFmtSPadsFirstPrecRunesUptoCardSaid : Prop := Claim7.holds Tryd.pinned (.plain (OpenSpec.upto fnFmtSPadsFirstPrecRunesSpec)) fnFmtSPadsFirstPrecRunesUptoCard

/-- THE SECOND FORM's CARD OF 'n002_112.FnFmtBsPadsFirstPrecRunes'. -/
def fnFmtBsPadsFirstPrecRunesUptoCard : Claim7 := { stood := { row := fnFmtBsPadsFirstPrecRunesUptoRow, standIns := [], harness := (true, "307a7a14df631aa003402481473100c4e508fcef1831aed5fba92742d40a66d7"), looks := false }, kinds := [], alts := [], laidByText := true, laidKinds := [.data, .sentinel, .data, .pinned], laidTests := true, laidLooks := .later }
def FnFmtBsPadsFirstPrecRunesUptoCardSaid : Prop := Claim7.holds Tryd.pinned (.plain (OpenSpec.upto fnFmtBsPadsFirstPrecRunesSpec)) fnFmtBsPadsFirstPrecRunesUptoCard

/-- THE SECOND FORM's CARD OF 'n002_112.FnFmtSLargerPrecisionExtends'. -/
def fnFmtSLargerPrecisionExtendsUptoCard : Claim7 := { stood := { row := fnFmtSLargerPrecisionExtendsUptoRow, standIns := [], harness := (true, "307a7a14df631aa003402481473100c4e508fcef1831aed5fba92742d40a66d7"), looks := false }, kinds := [], alts := [], laidByText := true, laidKinds := [.sentinel, .data], laidTests := true, laidLooks := .later }
def FnFmtSLargerPrecisionExtendsUptoCardSaid : Prop := Claim7.holds Tryd.pinned (.plain (OpenSpec.upto fnFmtSLargerPrecisionExtendsSpec)) fnFmtSLargerPrecisionExtendsUptoCard

/-- THE SECOND FORM's CARD OF 'n002_112.FnFmtSbxStringAgreesWithBytes'. -/
def fnFmtSbxStringAgreesWithBytesUptoCard : Claim7 := { stood := { row := fnFmtSbxStringAgreesWithBytesUptoRow, standIns := [], harness := (true, "307a7a14df631aa003402481473100c4e508fcef1831aed5fba92742d40a66d7"), looks := false }, kinds := [], alts := [], laidByText := true, laidKinds := [.sentinel, .data], laidTests := true, laidLooks := .later }
def FnFmtSbxStringAgreesWithBytesUptoCardSaid : Prop := Claim7.holds Tryd.pinned (.plain (OpenSpec.upto fnFmtSbxStringAgreesWithBytesSpec)) fnFmtSbxStringAgreesWithBytesUptoCard

/-- THE SECOND FORM's CARD OF 'n002_112.FnFmtSbxHexModel'. -/
def fnFmtSbxHexModelUptoCard : Claim7 := { stood := { row := fnFmtSbxHexModelUptoRow, standIns := [], harness := (true, "307a7a14df631aa003402481473100c4e508fcef1831aed5fba92742d40a66d7"), looks := false }, kinds := [], alts := [], laidByText := true, laidKinds := [.sentinel, .data], laidTests := true, laidLooks := .later }
def FnFmtSbxHexModelUptoCardSaid : Prop := Claim7.holds Tryd.pinned (.plain (OpenSpec.upto fnFmtSbxHexModelSpec)) fnFmtSbxHexModelUptoCard
end Rows
end Go.Proofs.YtcfllmebcfimeaaDoor
