/-
  NARROWER THAN 'FOR EVERY INPUT', by the rows' own cells (each row's printed sentence says how): FnFmtBxAgreesWithFmtSx: ifaces, laid · FnFmtSxMatchesHexModel: ifaces, laid · FnFmtSxPrecisionIsACut: ifaces, laid · FnFmtBxMatchesHexModel: ifaces, laid · FnTruncateAgreesWithTruncateString: laid · FnFmtBsAgreesWithFmtS: ifaces, laid · FnFmtSPadsFirstPrecRunes: ifaces, laid · FnFmtBsPadsFirstPrecRunes: ifaces, laid · FnFmtSLargerPrecisionExtends: ifaces, laid · FnFmtSbxStringAgreesWithBytes: ifaces, laid · FnFmtSbxHexModel: ifaces, laid.
  DERIVED. THE GIVEN ROWS OF THIS SEAT. 11 by the template 'for every input the law returns true; each argument reads behind the call as it read before'; 0 by the template 'total and deterministic' (their statements: YtcfllmebcfimeaaDoorTotals.lean).
  GIVEN WITH THE SEED: the statements are not yours to turn. If you find one false, say at which input.
  Laid BY PROGRAM, IN A SANDBOX (cutbox-rows.mjs): the forced cells as the released guide's own fill.sh prints them over the translation 011691a747970069… (all of the seat's roots in one cut). By AI agents, Wed Nov 11 2026. No macro, syntax, notation, axiom, sorry.
-/
import Derived.Test.YtcfllmebcfimeaaDoorChecked
import GoSem.PinnedTables
import GoSem.Claim
import GoSem.ClaimJoined
import GoSem.ClaimMapViews
import Derived.JoinedTies
import Derived.KernelRfl
namespace Go.Proofs.YtcfllmebcfimeaaDoor
/- THE CELL 'sum', in the pinned program and in every row, IS THE sha256 OF THE DUMP (.gsa) THAT YtcfllmebcfimeaaDoorProg.lean LOADS. Nothing in Lean hashes anything: it is a label: what it is worth is what the hold of that sum in a sandbox is worth. -/
noncomputable def Tryd.pinned : Pinned := { name := "ytcfllmebcfimeaadoor", sum := "011691a74797006999dbb6d6057ba0e0f5b75249bc401692231608af141fa06d", checked := Tryd.checked }
namespace Rows
def none {H : Type} : Left H := { results := [], args := [] }

/- WHAT THE LISTED PACKAGE-LEVEL VARIABLES READ AS WHEN THE CALL BEGINS. Each datum BY PROGRAM (the guide's laid-datum.mjs) off the statement by which the dump's own 'gosem.cut.vars' lays the variable. In a bare row this is a premise. The card (YtcfllmebcfimeaaDoorCards.lean) ties it to the program's text. -/
def laid_github_com_d5_tengo_v2_ErrStringLimit {H : Type} : DataW H := .iface "*errors.errorString" (.ptr (.agg [.lit (.string [101, 120, 99, 101, 101, 100, 105, 110, 103, 32, 115, 116, 114, 105, 110, 103, 32, 115, 105, 122, 101, 32, 108, 105, 109, 105, 116])]))
def laid_github_com_d5_tengo_v2_MaxStringLen {H : Type} : DataW H := .lit (.int .i64 2147483647)
def laid_unicode_utf8_acceptRanges {H : Type} : DataW H := .agg [.agg [.lit (.int .u8 128), .lit (.int .u8 191)], .agg [.lit (.int .u8 160), .lit (.int .u8 191)], .agg [.lit (.int .u8 128), .lit (.int .u8 159)], .agg [.lit (.int .u8 144), .lit (.int .u8 191)], .agg [.lit (.int .u8 128), .lit (.int .u8 143)], .agg [.lit (.int .u8 0), .lit (.int .u8 0)], .agg [.lit (.int .u8 0), .lit (.int .u8 0)], .agg [.lit (.int .u8 0), .lit (.int .u8 0)], .agg [.lit (.int .u8 0), .lit (.int .u8 0)], .agg [.lit (.int .u8 0), .lit (.int .u8 0)], .agg [.lit (.int .u8 0), .lit (.int .u8 0)], .agg [.lit (.int .u8 0), .lit (.int .u8 0)], .agg [.lit (.int .u8 0), .lit (.int .u8 0)], .agg [.lit (.int .u8 0), .lit (.int .u8 0)], .agg [.lit (.int .u8 0), .lit (.int .u8 0)], .agg [.lit (.int .u8 0), .lit (.int .u8 0)]]
/-- One of Go's own tables, pinned by name: the form's constant. -/
def laid_unicode_utf8_first : DataW Unit := Go.Pinned.utf8First

/-- 'n002_149.FnFmtBxAgreesWithFmtSx': WHATEVER THE INPUT: true; the input reads as it did. -/
def fnFmtBxAgreesWithFmtSxSpec : ChangeSpec := { name := "fnFmtBxAgreesWithFmtSx", vars := ["github.com/d5/tengo/v2.MaxStringLen", "github.com/d5/tengo/v2.ErrStringLimit"], fn := fun _ => fun
  | [d1, d2, d3, d4, d5, d6, d7, d8, d9, d10, d11, g1, g2] => { results := [.lit (.bool true)], args := [d1, d2, d3, d4, d5, d6, d7, d8, d9, d10, d11], vars := [g1, g2] }
  | _ => none }
def fnFmtBxAgreesWithFmtSxRow : OpenClaim := { program := "ytcfllmebcfimeaadoor", sum := "011691a74797006999dbb6d6057ba0e0f5b75249bc401692231608af141fa06d", func := "github.com/d5/tengo/v2/n002_149.FnFmtBxAgreesWithFmtSx", spec := "fnFmtBxAgreesWithFmtSx", named := ["github.com/d5/tengo/v2.MaxStringLen", "github.com/d5/tengo/v2.ErrStringLimit"], ifaces := true, apart := false, laid := [("github.com/d5/tengo/v2.ErrStringLimit", laid_github_com_d5_tengo_v2_ErrStringLimit), ("github.com/d5/tengo/v2.MaxStringLen", laid_github_com_d5_tengo_v2_MaxStringLen)] }
def FnFmtBxAgreesWithFmtSxSaid : Prop := fnFmtBxAgreesWithFmtSxRow.holds Tryd.pinned (OpenSpec.ofChange fnFmtBxAgreesWithFmtSxSpec)

/-- ITS FALSE NEIGHBOUR: 'it returns false'. Refute it at one input. -/
def fnFmtBxAgreesWithFmtSxWrong : ChangeSpec := { name := "fnFmtBxAgreesWithFmtSx", vars := ["github.com/d5/tengo/v2.MaxStringLen", "github.com/d5/tengo/v2.ErrStringLimit"], fn := fun _ => fun
  | [d1, d2, d3, d4, d5, d6, d7, d8, d9, d10, d11, g1, g2] => { results := [.lit (.bool false)], args := [d1, d2, d3, d4, d5, d6, d7, d8, d9, d10, d11], vars := [g1, g2] }
  | _ => none }
def FnFmtBxAgreesWithFmtSxWrongFalsely : Prop := fnFmtBxAgreesWithFmtSxRow.holds Tryd.pinned (OpenSpec.ofChange fnFmtBxAgreesWithFmtSxWrong)

/-- 'n002_149.FnFmtSxMatchesHexModel': WHATEVER THE INPUT: true; the input reads as it did. -/
def fnFmtSxMatchesHexModelSpec : ChangeSpec := { name := "fnFmtSxMatchesHexModel", vars := ["github.com/d5/tengo/v2.MaxStringLen", "github.com/d5/tengo/v2.ErrStringLimit"], fn := fun _ => fun
  | [d1, d2, d3, d4, d5, d6, d7, d8, d9, d10, d11, g1, g2] => { results := [.lit (.bool true)], args := [d1, d2, d3, d4, d5, d6, d7, d8, d9, d10, d11], vars := [g1, g2] }
  | _ => none }
def fnFmtSxMatchesHexModelRow : OpenClaim := { program := "ytcfllmebcfimeaadoor", sum := "011691a74797006999dbb6d6057ba0e0f5b75249bc401692231608af141fa06d", func := "github.com/d5/tengo/v2/n002_149.FnFmtSxMatchesHexModel", spec := "fnFmtSxMatchesHexModel", named := ["github.com/d5/tengo/v2.MaxStringLen", "github.com/d5/tengo/v2.ErrStringLimit"], ifaces := true, apart := false, laid := [("github.com/d5/tengo/v2.ErrStringLimit", laid_github_com_d5_tengo_v2_ErrStringLimit), ("github.com/d5/tengo/v2.MaxStringLen", laid_github_com_d5_tengo_v2_MaxStringLen)] }
def FnFmtSxMatchesHexModelSaid : Prop := fnFmtSxMatchesHexModelRow.holds Tryd.pinned (OpenSpec.ofChange fnFmtSxMatchesHexModelSpec)

/-- ITS FALSE NEIGHBOUR: 'it returns false'. Refute it at one input. -/
def fnFmtSxMatchesHexModelWrong : ChangeSpec := { name := "fnFmtSxMatchesHexModel", vars := ["github.com/d5/tengo/v2.MaxStringLen", "github.com/d5/tengo/v2.ErrStringLimit"], fn := fun _ => fun
  | [d1, d2, d3, d4, d5, d6, d7, d8, d9, d10, d11, g1, g2] => { results := [.lit (.bool false)], args := [d1, d2, d3, d4, d5, d6, d7, d8, d9, d10, d11], vars := [g1, g2] }
  | _ => none }
def FnFmtSxMatchesHexModelWrongFalsely : Prop := fnFmtSxMatchesHexModelRow.holds Tryd.pinned (OpenSpec.ofChange fnFmtSxMatchesHexModelWrong)

/-- 'n002_149.FnFmtSxPrecisionIsACut': WHATEVER THE INPUT: true; the input reads as it did. -/
def fnFmtSxPrecisionIsACutSpec : ChangeSpec := { name := "fnFmtSxPrecisionIsACut", vars := ["github.com/d5/tengo/v2.MaxStringLen", "github.com/d5/tengo/v2.ErrStringLimit"], fn := fun _ => fun
  | [d1, d2, d3, d4, d5, d6, d7, d8, d9, d10, g1, g2] => { results := [.lit (.bool true)], args := [d1, d2, d3, d4, d5, d6, d7, d8, d9, d10], vars := [g1, g2] }
  | _ => none }
def fnFmtSxPrecisionIsACutRow : OpenClaim := { program := "ytcfllmebcfimeaadoor", sum := "011691a74797006999dbb6d6057ba0e0f5b75249bc401692231608af141fa06d", func := "github.com/d5/tengo/v2/n002_149.FnFmtSxPrecisionIsACut", spec := "fnFmtSxPrecisionIsACut", named := ["github.com/d5/tengo/v2.MaxStringLen", "github.com/d5/tengo/v2.ErrStringLimit"], ifaces := true, apart := false, laid := [("github.com/d5/tengo/v2.ErrStringLimit", laid_github_com_d5_tengo_v2_ErrStringLimit), ("github.com/d5/tengo/v2.MaxStringLen", laid_github_com_d5_tengo_v2_MaxStringLen)] }
def FnFmtSxPrecisionIsACutSaid : Prop := fnFmtSxPrecisionIsACutRow.holds Tryd.pinned (OpenSpec.ofChange fnFmtSxPrecisionIsACutSpec)

/-- ITS FALSE NEIGHBOUR: 'it returns false'. Refute it at one input. -/
def fnFmtSxPrecisionIsACutWrong : ChangeSpec := { name := "fnFmtSxPrecisionIsACut", vars := ["github.com/d5/tengo/v2.MaxStringLen", "github.com/d5/tengo/v2.ErrStringLimit"], fn := fun _ => fun
  | [d1, d2, d3, d4, d5, d6, d7, d8, d9, d10, g1, g2] => { results := [.lit (.bool false)], args := [d1, d2, d3, d4, d5, d6, d7, d8, d9, d10], vars := [g1, g2] }
  | _ => none }
def FnFmtSxPrecisionIsACutWrongFalsely : Prop := fnFmtSxPrecisionIsACutRow.holds Tryd.pinned (OpenSpec.ofChange fnFmtSxPrecisionIsACutWrong)

/-- 'n002_149.FnFmtBxMatchesHexModel': WHATEVER THE INPUT: true; the input reads as it did. -/
def fnFmtBxMatchesHexModelSpec : ChangeSpec := { name := "fnFmtBxMatchesHexModel", vars := ["github.com/d5/tengo/v2.MaxStringLen", "github.com/d5/tengo/v2.ErrStringLimit"], fn := fun _ => fun
  | [d1, d2, d3, d4, d5, d6, d7, d8, d9, d10, d11, g1, g2] => { results := [.lit (.bool true)], args := [d1, d2, d3, d4, d5, d6, d7, d8, d9, d10, d11], vars := [g1, g2] }
  | _ => none }
def fnFmtBxMatchesHexModelRow : OpenClaim := { program := "ytcfllmebcfimeaadoor", sum := "011691a74797006999dbb6d6057ba0e0f5b75249bc401692231608af141fa06d", func := "github.com/d5/tengo/v2/n002_149.FnFmtBxMatchesHexModel", spec := "fnFmtBxMatchesHexModel", named := ["github.com/d5/tengo/v2.MaxStringLen", "github.com/d5/tengo/v2.ErrStringLimit"], ifaces := true, apart := false, laid := [("github.com/d5/tengo/v2.ErrStringLimit", laid_github_com_d5_tengo_v2_ErrStringLimit), ("github.com/d5/tengo/v2.MaxStringLen", laid_github_com_d5_tengo_v2_MaxStringLen)] }
def FnFmtBxMatchesHexModelSaid : Prop := fnFmtBxMatchesHexModelRow.holds Tryd.pinned (OpenSpec.ofChange fnFmtBxMatchesHexModelSpec)

/-- ITS FALSE NEIGHBOUR: 'it returns false'. Refute it at one input. -/
def fnFmtBxMatchesHexModelWrong : ChangeSpec := { name := "fnFmtBxMatchesHexModel", vars := ["github.com/d5/tengo/v2.MaxStringLen", "github.com/d5/tengo/v2.ErrStringLimit"], fn := fun _ => fun
  | [d1, d2, d3, d4, d5, d6, d7, d8, d9, d10, d11, g1, g2] => { results := [.lit (.bool false)], args := [d1, d2, d3, d4, d5, d6, d7, d8, d9, d10, d11], vars := [g1, g2] }
  | _ => none }
def FnFmtBxMatchesHexModelWrongFalsely : Prop := fnFmtBxMatchesHexModelRow.holds Tryd.pinned (OpenSpec.ofChange fnFmtBxMatchesHexModelWrong)

/-- 'n002_112.FnTruncateAgreesWithTruncateString': WHATEVER THE INPUT: true; the input reads as it did. -/
def fnTruncateAgreesWithTruncateStringSpec : ChangeSpec := { name := "fnTruncateAgreesWithTruncateString", fn := fun _ => fun
  | [d1, d2, d3] => { results := [.lit (.bool true)], args := [d1, d2, d3] }
  | _ => none }
def fnTruncateAgreesWithTruncateStringRow : OpenClaim := { program := "ytcfllmebcfimeaadoor", sum := "011691a74797006999dbb6d6057ba0e0f5b75249bc401692231608af141fa06d", func := "github.com/d5/tengo/v2/n002_112.FnTruncateAgreesWithTruncateString", spec := "fnTruncateAgreesWithTruncateString", named := ["unicode/utf8.first", "unicode/utf8.acceptRanges"], apart := false, laid := [("unicode/utf8.acceptRanges", laid_unicode_utf8_acceptRanges), ("unicode/utf8.first", laid_unicode_utf8_first)] }
def FnTruncateAgreesWithTruncateStringSaid : Prop := fnTruncateAgreesWithTruncateStringRow.holds Tryd.pinned (OpenSpec.ofChange fnTruncateAgreesWithTruncateStringSpec)

/-- ITS FALSE NEIGHBOUR: 'it returns false'. Refute it at one input. -/
def fnTruncateAgreesWithTruncateStringWrong : ChangeSpec := { name := "fnTruncateAgreesWithTruncateString", fn := fun _ => fun
  | [d1, d2, d3] => { results := [.lit (.bool false)], args := [d1, d2, d3] }
  | _ => none }
def FnTruncateAgreesWithTruncateStringWrongFalsely : Prop := fnTruncateAgreesWithTruncateStringRow.holds Tryd.pinned (OpenSpec.ofChange fnTruncateAgreesWithTruncateStringWrong)

/-- 'n002_112.FnFmtBsAgreesWithFmtS': WHATEVER THE INPUT: true; the input reads as it did. -/
def fnFmtBsAgreesWithFmtSSpec : ChangeSpec := { name := "fnFmtBsAgreesWithFmtS", vars := ["github.com/d5/tengo/v2.MaxStringLen", "github.com/d5/tengo/v2.ErrStringLimit"], fn := fun _ => fun
  | [d1, d2, d3, d4, d5, d6, d7, g1, g2] => { results := [.lit (.bool true)], args := [d1, d2, d3, d4, d5, d6, d7], vars := [g1, g2] }
  | _ => none }
def fnFmtBsAgreesWithFmtSRow : OpenClaim := { program := "ytcfllmebcfimeaadoor", sum := "011691a74797006999dbb6d6057ba0e0f5b75249bc401692231608af141fa06d", func := "github.com/d5/tengo/v2/n002_112.FnFmtBsAgreesWithFmtS", spec := "fnFmtBsAgreesWithFmtS", named := ["unicode/utf8.first", "unicode/utf8.acceptRanges", "github.com/d5/tengo/v2.MaxStringLen", "github.com/d5/tengo/v2.ErrStringLimit"], ifaces := true, apart := false, laid := [("unicode/utf8.acceptRanges", laid_unicode_utf8_acceptRanges), ("github.com/d5/tengo/v2.ErrStringLimit", laid_github_com_d5_tengo_v2_ErrStringLimit), ("github.com/d5/tengo/v2.MaxStringLen", laid_github_com_d5_tengo_v2_MaxStringLen), ("unicode/utf8.first", laid_unicode_utf8_first)] }
def FnFmtBsAgreesWithFmtSSaid : Prop := fnFmtBsAgreesWithFmtSRow.holds Tryd.pinned (OpenSpec.ofChange fnFmtBsAgreesWithFmtSSpec)

/-- ITS FALSE NEIGHBOUR: 'it returns false'. Refute it at one input. -/
def fnFmtBsAgreesWithFmtSWrong : ChangeSpec := { name := "fnFmtBsAgreesWithFmtS", vars := ["github.com/d5/tengo/v2.MaxStringLen", "github.com/d5/tengo/v2.ErrStringLimit"], fn := fun _ => fun
  | [d1, d2, d3, d4, d5, d6, d7, g1, g2] => { results := [.lit (.bool false)], args := [d1, d2, d3, d4, d5, d6, d7], vars := [g1, g2] }
  | _ => none }
def FnFmtBsAgreesWithFmtSWrongFalsely : Prop := fnFmtBsAgreesWithFmtSRow.holds Tryd.pinned (OpenSpec.ofChange fnFmtBsAgreesWithFmtSWrong)

/-- 'n002_112.FnFmtSPadsFirstPrecRunes': WHATEVER THE INPUT: true; the input reads as it did. -/
def fnFmtSPadsFirstPrecRunesSpec : ChangeSpec := { name := "fnFmtSPadsFirstPrecRunes", vars := ["github.com/d5/tengo/v2.MaxStringLen", "github.com/d5/tengo/v2.ErrStringLimit"], fn := fun _ => fun
  | [d1, d2, d3, d4, d5, d6, d7, g1, g2] => { results := [.lit (.bool true)], args := [d1, d2, d3, d4, d5, d6, d7], vars := [g1, g2] }
  | _ => none }
def fnFmtSPadsFirstPrecRunesRow : OpenClaim := { program := "ytcfllmebcfimeaadoor", sum := "011691a74797006999dbb6d6057ba0e0f5b75249bc401692231608af141fa06d", func := "github.com/d5/tengo/v2/n002_112.FnFmtSPadsFirstPrecRunes", spec := "fnFmtSPadsFirstPrecRunes", named := ["github.com/d5/tengo/v2.MaxStringLen", "github.com/d5/tengo/v2.ErrStringLimit"], ifaces := true, apart := false, laid := [("github.com/d5/tengo/v2.ErrStringLimit", laid_github_com_d5_tengo_v2_ErrStringLimit), ("github.com/d5/tengo/v2.MaxStringLen", laid_github_com_d5_tengo_v2_MaxStringLen)] }
def FnFmtSPadsFirstPrecRunesSaid : Prop := fnFmtSPadsFirstPrecRunesRow.holds Tryd.pinned (OpenSpec.ofChange fnFmtSPadsFirstPrecRunesSpec)

/-- ITS FALSE NEIGHBOUR: 'it returns false'. Refute it at one input. -/
def fnFmtSPadsFirstPrecRunesWrong : ChangeSpec := { name := "fnFmtSPadsFirstPrecRunes", vars := ["github.com/d5/tengo/v2.MaxStringLen", "github.com/d5/tengo/v2.ErrStringLimit"], fn := fun _ => fun
  | [d1, d2, d3, d4, d5, d6, d7, g1, g2] => { results := [.lit (.bool false)], args := [d1, d2, d3, d4, d5, d6, d7], vars := [g1, g2] }
  | _ => none }
def FnFmtSPadsFirstPrecRunesWrongFalsely : Prop := fnFmtSPadsFirstPrecRunesRow.holds Tryd.pinned (OpenSpec.ofChange fnFmtSPadsFirstPrecRunesWrong)

/-- 'n002_112.FnFmtBsPadsFirstPrecRunes': WHATEVER THE INPUT: true; the input reads as it did. -/
def fnFmtBsPadsFirstPrecRunesSpec : ChangeSpec := { name := "fnFmtBsPadsFirstPrecRunes", vars := ["github.com/d5/tengo/v2.MaxStringLen", "github.com/d5/tengo/v2.ErrStringLimit"], fn := fun _ => fun
  | [d1, d2, d3, d4, d5, d6, d7, g1, g2] => { results := [.lit (.bool true)], args := [d1, d2, d3, d4, d5, d6, d7], vars := [g1, g2] }
  | _ => none }
def fnFmtBsPadsFirstPrecRunesRow : OpenClaim := { program := "ytcfllmebcfimeaadoor", sum := "011691a74797006999dbb6d6057ba0e0f5b75249bc401692231608af141fa06d", func := "github.com/d5/tengo/v2/n002_112.FnFmtBsPadsFirstPrecRunes", spec := "fnFmtBsPadsFirstPrecRunes", named := ["unicode/utf8.first", "unicode/utf8.acceptRanges", "github.com/d5/tengo/v2.MaxStringLen", "github.com/d5/tengo/v2.ErrStringLimit"], ifaces := true, apart := false, laid := [("unicode/utf8.acceptRanges", laid_unicode_utf8_acceptRanges), ("github.com/d5/tengo/v2.ErrStringLimit", laid_github_com_d5_tengo_v2_ErrStringLimit), ("github.com/d5/tengo/v2.MaxStringLen", laid_github_com_d5_tengo_v2_MaxStringLen), ("unicode/utf8.first", laid_unicode_utf8_first)] }
def FnFmtBsPadsFirstPrecRunesSaid : Prop := fnFmtBsPadsFirstPrecRunesRow.holds Tryd.pinned (OpenSpec.ofChange fnFmtBsPadsFirstPrecRunesSpec)

/-- ITS FALSE NEIGHBOUR: 'it returns false'. Refute it at one input. -/
def fnFmtBsPadsFirstPrecRunesWrong : ChangeSpec := { name := "fnFmtBsPadsFirstPrecRunes", vars := ["github.com/d5/tengo/v2.MaxStringLen", "github.com/d5/tengo/v2.ErrStringLimit"], fn := fun _ => fun
  | [d1, d2, d3, d4, d5, d6, d7, g1, g2] => { results := [.lit (.bool false)], args := [d1, d2, d3, d4, d5, d6, d7], vars := [g1, g2] }
  | _ => none }
def FnFmtBsPadsFirstPrecRunesWrongFalsely : Prop := fnFmtBsPadsFirstPrecRunesRow.holds Tryd.pinned (OpenSpec.ofChange fnFmtBsPadsFirstPrecRunesWrong)

/-- 'n002_112.FnFmtSLargerPrecisionExtends': WHATEVER THE INPUT: true; the input reads as it did. -/
def fnFmtSLargerPrecisionExtendsSpec : ChangeSpec := { name := "fnFmtSLargerPrecisionExtends", vars := ["github.com/d5/tengo/v2.MaxStringLen", "github.com/d5/tengo/v2.ErrStringLimit"], fn := fun _ => fun
  | [d1, d2, d3, g1, g2] => { results := [.lit (.bool true)], args := [d1, d2, d3], vars := [g1, g2] }
  | _ => none }
def fnFmtSLargerPrecisionExtendsRow : OpenClaim := { program := "ytcfllmebcfimeaadoor", sum := "011691a74797006999dbb6d6057ba0e0f5b75249bc401692231608af141fa06d", func := "github.com/d5/tengo/v2/n002_112.FnFmtSLargerPrecisionExtends", spec := "fnFmtSLargerPrecisionExtends", named := ["github.com/d5/tengo/v2.MaxStringLen", "github.com/d5/tengo/v2.ErrStringLimit"], ifaces := true, apart := false, laid := [("github.com/d5/tengo/v2.ErrStringLimit", laid_github_com_d5_tengo_v2_ErrStringLimit), ("github.com/d5/tengo/v2.MaxStringLen", laid_github_com_d5_tengo_v2_MaxStringLen)] }
def FnFmtSLargerPrecisionExtendsSaid : Prop := fnFmtSLargerPrecisionExtendsRow.holds Tryd.pinned (OpenSpec.ofChange fnFmtSLargerPrecisionExtendsSpec)

/-- ITS FALSE NEIGHBOUR: 'it returns false'. Refute it at one input. -/
def fnFmtSLargerPrecisionExtendsWrong : ChangeSpec := { name := "fnFmtSLargerPrecisionExtends", vars := ["github.com/d5/tengo/v2.MaxStringLen", "github.com/d5/tengo/v2.ErrStringLimit"], fn := fun _ => fun
  | [d1, d2, d3, g1, g2] => { results := [.lit (.bool false)], args := [d1, d2, d3], vars := [g1, g2] }
  | _ => none }
def FnFmtSLargerPrecisionExtendsWrongFalsely : Prop := fnFmtSLargerPrecisionExtendsRow.holds Tryd.pinned (OpenSpec.ofChange fnFmtSLargerPrecisionExtendsWrong)

/-- 'n002_112.FnFmtSbxStringAgreesWithBytes': WHATEVER THE INPUT: true; the input reads as it did. -/
def fnFmtSbxStringAgreesWithBytesSpec : ChangeSpec := { name := "fnFmtSbxStringAgreesWithBytes", vars := ["github.com/d5/tengo/v2.MaxStringLen", "github.com/d5/tengo/v2.ErrStringLimit"], fn := fun _ => fun
  | [d1, d2, d3, d4, d5, d6, d7, d8, d9, d10, g1, g2] => { results := [.lit (.bool true)], args := [d1, d2, d3, d4, d5, d6, d7, d8, d9, d10], vars := [g1, g2] }
  | _ => none }
def fnFmtSbxStringAgreesWithBytesRow : OpenClaim := { program := "ytcfllmebcfimeaadoor", sum := "011691a74797006999dbb6d6057ba0e0f5b75249bc401692231608af141fa06d", func := "github.com/d5/tengo/v2/n002_112.FnFmtSbxStringAgreesWithBytes", spec := "fnFmtSbxStringAgreesWithBytes", named := ["github.com/d5/tengo/v2.MaxStringLen", "github.com/d5/tengo/v2.ErrStringLimit"], ifaces := true, apart := false, laid := [("github.com/d5/tengo/v2.ErrStringLimit", laid_github_com_d5_tengo_v2_ErrStringLimit), ("github.com/d5/tengo/v2.MaxStringLen", laid_github_com_d5_tengo_v2_MaxStringLen)] }
def FnFmtSbxStringAgreesWithBytesSaid : Prop := fnFmtSbxStringAgreesWithBytesRow.holds Tryd.pinned (OpenSpec.ofChange fnFmtSbxStringAgreesWithBytesSpec)

/-- ITS FALSE NEIGHBOUR: 'it returns false'. Refute it at one input. -/
def fnFmtSbxStringAgreesWithBytesWrong : ChangeSpec := { name := "fnFmtSbxStringAgreesWithBytes", vars := ["github.com/d5/tengo/v2.MaxStringLen", "github.com/d5/tengo/v2.ErrStringLimit"], fn := fun _ => fun
  | [d1, d2, d3, d4, d5, d6, d7, d8, d9, d10, g1, g2] => { results := [.lit (.bool false)], args := [d1, d2, d3, d4, d5, d6, d7, d8, d9, d10], vars := [g1, g2] }
  | _ => none }
def FnFmtSbxStringAgreesWithBytesWrongFalsely : Prop := fnFmtSbxStringAgreesWithBytesRow.holds Tryd.pinned (OpenSpec.ofChange fnFmtSbxStringAgreesWithBytesWrong)

/-- 'n002_112.FnFmtSbxHexModel': WHATEVER THE INPUT: true; the input reads as it did. -/
def fnFmtSbxHexModelSpec : ChangeSpec := { name := "fnFmtSbxHexModel", vars := ["github.com/d5/tengo/v2.MaxStringLen", "github.com/d5/tengo/v2.ErrStringLimit"], fn := fun _ => fun
  | [d1, d2, d3, d4, d5, d6, d7, d8, d9, d10, d11, g1, g2] => { results := [.lit (.bool true)], args := [d1, d2, d3, d4, d5, d6, d7, d8, d9, d10, d11], vars := [g1, g2] }
  | _ => none }
def fnFmtSbxHexModelRow : OpenClaim := { program := "ytcfllmebcfimeaadoor", sum := "011691a74797006999dbb6d6057ba0e0f5b75249bc401692231608af141fa06d", func := "github.com/d5/tengo/v2/n002_112.FnFmtSbxHexModel", spec := "fnFmtSbxHexModel", named := ["github.com/d5/tengo/v2.MaxStringLen", "github.com/d5/tengo/v2.ErrStringLimit"], ifaces := true, apart := false, laid := [("github.com/d5/tengo/v2.ErrStringLimit", laid_github_com_d5_tengo_v2_ErrStringLimit), ("github.com/d5/tengo/v2.MaxStringLen", laid_github_com_d5_tengo_v2_MaxStringLen)] }
def FnFmtSbxHexModelSaid : Prop := fnFmtSbxHexModelRow.holds Tryd.pinned (OpenSpec.ofChange fnFmtSbxHexModelSpec)

/-- ITS FALSE NEIGHBOUR: 'it returns false'. Refute it at one input. -/
def fnFmtSbxHexModelWrong : ChangeSpec := { name := "fnFmtSbxHexModel", vars := ["github.com/d5/tengo/v2.MaxStringLen", "github.com/d5/tengo/v2.ErrStringLimit"], fn := fun _ => fun
  | [d1, d2, d3, d4, d5, d6, d7, d8, d9, d10, d11, g1, g2] => { results := [.lit (.bool false)], args := [d1, d2, d3, d4, d5, d6, d7, d8, d9, d10, d11], vars := [g1, g2] }
  | _ => none }
def FnFmtSbxHexModelWrongFalsely : Prop := fnFmtSbxHexModelRow.holds Tryd.pinned (OpenSpec.ofChange fnFmtSbxHexModelWrong)

/- THE SECOND FORM. 'bulk': how many values and letters a reading holds, each counted each time it is reached (what is shared counts as often as it is met; a slice's spare places count too). A statement '..UptoSaid' is the law's where the arguments, and the package variables that the reading takes, are together of bulk at most 1048576: NARROWER than '..Said'. Prove '..Said' where nothing that the law and all that it calls make is longer than what came in: it says more and counts as full. Else prove '..UptoSaid'. A law counts once. -/
mutual
def uptoBulk {H : Type} : DataW H → Nat
  | .lit (.string bytes) => bytes.length + 1
  | .lit _ => 1
  | .nil => 1
  | .ptr d => uptoBulk d + 1
  | .slice elems spare => uptoBulkAll elems + uptoBulkAll spare + 1
  | .agg parts => uptoBulkAll parts + 1
  | .iface _ d => uptoBulk d + 1
  | .map entries => uptoBulkEntries entries + 1
  | .held _ => 1
def uptoBulkAll {H : Type} : List (DataW H) → Nat
  | [] => 0
  | d :: r => uptoBulk d + uptoBulkAll r
def uptoBulkEntries {H : Type} : List (Lit × DataW H) → Nat
  | [] => 0
  | x :: r => uptoBulkEntry x + uptoBulkEntries r
def uptoBulkEntry {H : Type} : Lit × DataW H → Nat
  | (.string bytes, d) => bytes.length + uptoBulk d + 1
  | (_, d) => uptoBulk d + 1
 end
def uptoSmall : (H : Type) → List (DataW H) → Bool := fun _ ds => decide (uptoBulkAll ds ≤ 1048576)
def OpenSpec.upto (s : _root_.Go.ChangeSpec) : _root_.Go.OpenSpec := { _root_.Go.OpenSpec.ofChange s with cond := some uptoSmall }

/-- 'n002_149.FnFmtBxAgreesWithFmtSx', WHERE WHAT IT READS IS OF BULK AT MOST 1048576: true; the input reads as it did. -/
def fnFmtBxAgreesWithFmtSxUptoRow : OpenClaim := { program := "ytcfllmebcfimeaadoor", sum := "011691a74797006999dbb6d6057ba0e0f5b75249bc401692231608af141fa06d", func := "github.com/d5/tengo/v2/n002_149.FnFmtBxAgreesWithFmtSx", spec := "fnFmtBxAgreesWithFmtSx", named := ["github.com/d5/tengo/v2.MaxStringLen", "github.com/d5/tengo/v2.ErrStringLimit"], ifaces := true, apart := false, laid := [("github.com/d5/tengo/v2.ErrStringLimit", laid_github_com_d5_tengo_v2_ErrStringLimit), ("github.com/d5/tengo/v2.MaxStringLen", laid_github_com_d5_tengo_v2_MaxStringLen)], narrowed := true }
def FnFmtBxAgreesWithFmtSxUptoSaid : Prop := fnFmtBxAgreesWithFmtSxUptoRow.holds Tryd.pinned (OpenSpec.upto fnFmtBxAgreesWithFmtSxSpec)

/-- 'n002_149.FnFmtSxMatchesHexModel', WHERE WHAT IT READS IS OF BULK AT MOST 1048576: true; the input reads as it did. -/
def fnFmtSxMatchesHexModelUptoRow : OpenClaim := { program := "ytcfllmebcfimeaadoor", sum := "011691a74797006999dbb6d6057ba0e0f5b75249bc401692231608af141fa06d", func := "github.com/d5/tengo/v2/n002_149.FnFmtSxMatchesHexModel", spec := "fnFmtSxMatchesHexModel", named := ["github.com/d5/tengo/v2.MaxStringLen", "github.com/d5/tengo/v2.ErrStringLimit"], ifaces := true, apart := false, laid := [("github.com/d5/tengo/v2.ErrStringLimit", laid_github_com_d5_tengo_v2_ErrStringLimit), ("github.com/d5/tengo/v2.MaxStringLen", laid_github_com_d5_tengo_v2_MaxStringLen)], narrowed := true }
def FnFmtSxMatchesHexModelUptoSaid : Prop := fnFmtSxMatchesHexModelUptoRow.holds Tryd.pinned (OpenSpec.upto fnFmtSxMatchesHexModelSpec)

/-- 'n002_149.FnFmtSxPrecisionIsACut', WHERE WHAT IT READS IS OF BULK AT MOST 1048576: true; the input reads as it did. -/
def fnFmtSxPrecisionIsACutUptoRow : OpenClaim := { program := "ytcfllmebcfimeaadoor", sum := "011691a74797006999dbb6d6057ba0e0f5b75249bc401692231608af141fa06d", func := "github.com/d5/tengo/v2/n002_149.FnFmtSxPrecisionIsACut", spec := "fnFmtSxPrecisionIsACut", named := ["github.com/d5/tengo/v2.MaxStringLen", "github.com/d5/tengo/v2.ErrStringLimit"], ifaces := true, apart := false, laid := [("github.com/d5/tengo/v2.ErrStringLimit", laid_github_com_d5_tengo_v2_ErrStringLimit), ("github.com/d5/tengo/v2.MaxStringLen", laid_github_com_d5_tengo_v2_MaxStringLen)], narrowed := true }
def FnFmtSxPrecisionIsACutUptoSaid : Prop := fnFmtSxPrecisionIsACutUptoRow.holds Tryd.pinned (OpenSpec.upto fnFmtSxPrecisionIsACutSpec)

/-- 'n002_149.FnFmtBxMatchesHexModel', WHERE WHAT IT READS IS OF BULK AT MOST 1048576: true; the input reads as it did. -/
def fnFmtBxMatchesHexModelUptoRow : OpenClaim := { program := "ytcfllmebcfimeaadoor", sum := "011691a74797006999dbb6d6057ba0e0f5b75249bc401692231608af141fa06d", func := "github.com/d5/tengo/v2/n002_149.FnFmtBxMatchesHexModel", spec := "fnFmtBxMatchesHexModel", named := ["github.com/d5/tengo/v2.MaxStringLen", "github.com/d5/tengo/v2.ErrStringLimit"], ifaces := true, apart := false, laid := [("github.com/d5/tengo/v2.ErrStringLimit", laid_github_com_d5_tengo_v2_ErrStringLimit), ("github.com/d5/tengo/v2.MaxStringLen", laid_github_com_d5_tengo_v2_MaxStringLen)], narrowed := true }
def FnFmtBxMatchesHexModelUptoSaid : Prop := fnFmtBxMatchesHexModelUptoRow.holds Tryd.pinned (OpenSpec.upto fnFmtBxMatchesHexModelSpec)

/-- 'n002_112.FnTruncateAgreesWithTruncateString', WHERE WHAT IT READS IS OF BULK AT MOST 1048576: true; the input reads as it did. -/
def fnTruncateAgreesWithTruncateStringUptoRow : OpenClaim := { program := "ytcfllmebcfimeaadoor", sum := "011691a74797006999dbb6d6057ba0e0f5b75249bc401692231608af141fa06d", func := "github.com/d5/tengo/v2/n002_112.FnTruncateAgreesWithTruncateString", spec := "fnTruncateAgreesWithTruncateString", named := ["unicode/utf8.first", "unicode/utf8.acceptRanges"], apart := false, laid := [("unicode/utf8.acceptRanges", laid_unicode_utf8_acceptRanges), ("unicode/utf8.first", laid_unicode_utf8_first)], narrowed := true }
def FnTruncateAgreesWithTruncateStringUptoSaid : Prop := fnTruncateAgreesWithTruncateStringUptoRow.holds Tryd.pinned (OpenSpec.upto fnTruncateAgreesWithTruncateStringSpec)

/-- 'n002_112.FnFmtBsAgreesWithFmtS', WHERE WHAT IT READS IS OF BULK AT MOST 1048576: true; the input reads as it did. -/
def fnFmtBsAgreesWithFmtSUptoRow : OpenClaim := { program := "ytcfllmebcfimeaadoor", sum := "011691a74797006999dbb6d6057ba0e0f5b75249bc401692231608af141fa06d", func := "github.com/d5/tengo/v2/n002_112.FnFmtBsAgreesWithFmtS", spec := "fnFmtBsAgreesWithFmtS", named := ["unicode/utf8.first", "unicode/utf8.acceptRanges", "github.com/d5/tengo/v2.MaxStringLen", "github.com/d5/tengo/v2.ErrStringLimit"], ifaces := true, apart := false, laid := [("unicode/utf8.acceptRanges", laid_unicode_utf8_acceptRanges), ("github.com/d5/tengo/v2.ErrStringLimit", laid_github_com_d5_tengo_v2_ErrStringLimit), ("github.com/d5/tengo/v2.MaxStringLen", laid_github_com_d5_tengo_v2_MaxStringLen), ("unicode/utf8.first", laid_unicode_utf8_first)], narrowed := true }
def FnFmtBsAgreesWithFmtSUptoSaid : Prop := fnFmtBsAgreesWithFmtSUptoRow.holds Tryd.pinned (OpenSpec.upto fnFmtBsAgreesWithFmtSSpec)

/-- 'n002_112.FnFmtSPadsFirstPrecRunes', WHERE WHAT IT READS IS OF BULK AT MOST 1048576: true; the input reads as it did. -/
def fnFmtSPadsFirstPrecRunesUptoRow : OpenClaim := { program := "ytcfllmebcfimeaadoor", sum := "011691a74797006999dbb6d6057ba0e0f5b75249bc401692231608af141fa06d", func := "github.com/d5/tengo/v2/n002_112.FnFmtSPadsFirstPrecRunes", spec := "fnFmtSPadsFirstPrecRunes", named := ["github.com/d5/tengo/v2.MaxStringLen", "github.com/d5/tengo/v2.ErrStringLimit"], ifaces := true, apart := false, laid := [("github.com/d5/tengo/v2.ErrStringLimit", laid_github_com_d5_tengo_v2_ErrStringLimit), ("github.com/d5/tengo/v2.MaxStringLen", laid_github_com_d5_tengo_v2_MaxStringLen)], narrowed := true }
def FnFmtSPadsFirstPrecRunesUptoSaid : Prop := fnFmtSPadsFirstPrecRunesUptoRow.holds Tryd.pinned (OpenSpec.upto fnFmtSPadsFirstPrecRunesSpec)

/-- 'n002_112.FnFmtBsPadsFirstPrecRunes', WHERE WHAT IT READS IS OF BULK AT MOST 1048576: true; the input reads as it did. -/
def fnFmtBsPadsFirstPrecRunesUptoRow : OpenClaim := { program := "ytcfllmebcfimeaadoor", sum := "011691a74797006999dbb6d6057ba0e0f5b75249bc401692231608af141fa06d", func := "github.com/d5/tengo/v2/n002_112.FnFmtBsPadsFirstPrecRunes", spec := "fnFmtBsPadsFirstPrecRunes", named := ["unicode/utf8.first", "unicode/utf8.acceptRanges", "github.com/d5/tengo/v2.MaxStringLen", "github.com/d5/tengo/v2.ErrStringLimit"], ifaces := true, apart := false, laid := [("unicode/utf8.acceptRanges", laid_unicode_utf8_acceptRanges), ("github.com/d5/tengo/v2.ErrStringLimit", laid_github_com_d5_tengo_v2_ErrStringLimit), ("github.com/d5/tengo/v2.MaxStringLen", laid_github_com_d5_tengo_v2_MaxStringLen), ("unicode/utf8.first", laid_unicode_utf8_first)], narrowed := true }
def FnFmtBsPadsFirstPrecRunesUptoSaid : Prop := fnFmtBsPadsFirstPrecRunesUptoRow.holds Tryd.pinned (OpenSpec.upto fnFmtBsPadsFirstPrecRunesSpec)

/-- 'n002_112.FnFmtSLargerPrecisionExtends', WHERE WHAT IT READS IS OF BULK AT MOST 1048576: true; the input reads as it did. -/
def fnFmtSLargerPrecisionExtendsUptoRow : OpenClaim := { program := "ytcfllmebcfimeaadoor", sum := "011691a74797006999dbb6d6057ba0e0f5b75249bc401692231608af141fa06d", func := "github.com/d5/tengo/v2/n002_112.FnFmtSLargerPrecisionExtends", spec := "fnFmtSLargerPrecisionExtends", named := ["github.com/d5/tengo/v2.MaxStringLen", "github.com/d5/tengo/v2.ErrStringLimit"], ifaces := true, apart := false, laid := [("github.com/d5/tengo/v2.ErrStringLimit", laid_github_com_d5_tengo_v2_ErrStringLimit), ("github.com/d5/tengo/v2.MaxStringLen", laid_github_com_d5_tengo_v2_MaxStringLen)], narrowed := true }
def FnFmtSLargerPrecisionExtendsUptoSaid : Prop := fnFmtSLargerPrecisionExtendsUptoRow.holds Tryd.pinned (OpenSpec.upto fnFmtSLargerPrecisionExtendsSpec)

/-- 'n002_112.FnFmtSbxStringAgreesWithBytes', WHERE WHAT IT READS IS OF BULK AT MOST 1048576: true; the input reads as it did. -/
def fnFmtSbxStringAgreesWithBytesUptoRow : OpenClaim := { program := "ytcfllmebcfimeaadoor", sum := "011691a74797006999dbb6d6057ba0e0f5b75249bc401692231608af141fa06d", func := "github.com/d5/tengo/v2/n002_112.FnFmtSbxStringAgreesWithBytes", spec := "fnFmtSbxStringAgreesWithBytes", named := ["github.com/d5/tengo/v2.MaxStringLen", "github.com/d5/tengo/v2.ErrStringLimit"], ifaces := true, apart := false, laid := [("github.com/d5/tengo/v2.ErrStringLimit", laid_github_com_d5_tengo_v2_ErrStringLimit), ("github.com/d5/tengo/v2.MaxStringLen", laid_github_com_d5_tengo_v2_MaxStringLen)], narrowed := true }
def FnFmtSbxStringAgreesWithBytesUptoSaid : Prop := fnFmtSbxStringAgreesWithBytesUptoRow.holds Tryd.pinned (OpenSpec.upto fnFmtSbxStringAgreesWithBytesSpec)

/-- 'n002_112.FnFmtSbxHexModel', WHERE WHAT IT READS IS OF BULK AT MOST 1048576: true; the input reads as it did. -/
def fnFmtSbxHexModelUptoRow : OpenClaim := { program := "ytcfllmebcfimeaadoor", sum := "011691a74797006999dbb6d6057ba0e0f5b75249bc401692231608af141fa06d", func := "github.com/d5/tengo/v2/n002_112.FnFmtSbxHexModel", spec := "fnFmtSbxHexModel", named := ["github.com/d5/tengo/v2.MaxStringLen", "github.com/d5/tengo/v2.ErrStringLimit"], ifaces := true, apart := false, laid := [("github.com/d5/tengo/v2.ErrStringLimit", laid_github_com_d5_tengo_v2_ErrStringLimit), ("github.com/d5/tengo/v2.MaxStringLen", laid_github_com_d5_tengo_v2_MaxStringLen)], narrowed := true }
def FnFmtSbxHexModelUptoSaid : Prop := fnFmtSbxHexModelUptoRow.holds Tryd.pinned (OpenSpec.upto fnFmtSbxHexModelSpec)

end Rows
end Go.Proofs.YtcfllmebcfimeaaDoor
