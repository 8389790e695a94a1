/-
  NARROWER THAN 'FOR EVERY INPUT', by the rows' own cells (each row's printed sentence says how): FnIntegerRoundTrip: ifaces, laid · FnUnicodeAgreesWithHexInteger: ifaces, laid · FnIntegerSpec: ifaces, laid · FnUnicodeSpec: ifaces, laid.
  DERIVED. THE GIVEN ROWS OF THIS SEAT. 4 by the template 'for every input the law returns true; each argument reads behind the call as it read before'; 0 by the template 'total and deterministic' (their statements: YtfpjkkjhdblmkaaDoorTotals.lean).
  GIVEN WITH THE SEED: the statements are not yours to turn. If you find one false, say at which input.
  Laid BY PROGRAM, IN A SANDBOX (cutbox-rows.mjs): the forced cells as the released guide's own fill.sh prints them over the translation 07ab7c80a131cf57… (all of the seat's roots in one cut). By AI agents, Wed Nov 11 2026. No macro, syntax, notation, axiom, sorry.
-/
import Derived.Test.YtfpjkkjhdblmkaaDoorChecked
import GoSem.PinnedTables
import GoSem.Claim
import GoSem.ClaimJoined
import GoSem.ClaimMapViews
import Derived.JoinedTies
import Derived.KernelRfl
namespace Go.Proofs.YtfpjkkjhdblmkaaDoor
/- THE CELL 'sum', in the pinned program and in every row, IS THE sha256 OF THE DUMP (.gsa) THAT YtfpjkkjhdblmkaaDoorProg.lean LOADS. Nothing in Lean hashes anything: it is a label: what it is worth is what the hold of that sum in a sandbox is worth. -/
noncomputable def Tryd.pinned : Pinned := { name := "ytfpjkkjhdblmkaadoor", sum := "07ab7c80a131cf5782cf66d4525a7161327d50f2ada95111cfb0ba4983ea8bd9", checked := Tryd.checked }
namespace Rows
def none {H : Type} : Left H := { results := [], args := [] }

/- WHAT THE LISTED PACKAGE-LEVEL VARIABLES READ AS WHEN THE CALL BEGINS. Each datum BY PROGRAM (the guide's laid-datum.mjs) off the statement by which the dump's own 'gosem.cut.vars' lays the variable. In a bare row this is a premise. The card (YtfpjkkjhdblmkaaDoorCards.lean) ties it to the program's text. -/
def laid_github_com_d5_tengo_v2_ErrStringLimit {H : Type} : DataW H := .iface "*errors.errorString" (.ptr (.agg [.lit (.string [101, 120, 99, 101, 101, 100, 105, 110, 103, 32, 115, 116, 114, 105, 110, 103, 32, 115, 105, 122, 101, 32, 108, 105, 109, 105, 116])]))
def laid_github_com_d5_tengo_v2_MaxStringLen {H : Type} : DataW H := .lit (.int .i64 2147483647)
/-- One of Go's own tables, pinned by name: the form's constant. -/
def laid_strconv_isNotPrint16 : DataW Unit := Go.Pinned.isNotPrint16
/-- One of Go's own tables, pinned by name: the form's constant. -/
def laid_strconv_isNotPrint32 : DataW Unit := Go.Pinned.isNotPrint32
/-- One of Go's own tables, pinned by name: the form's constant. -/
def laid_strconv_isPrint16 : DataW Unit := Go.Pinned.isPrint16
/-- One of Go's own tables, pinned by name: the form's constant. -/
def laid_strconv_isPrint32 : DataW Unit := Go.Pinned.isPrint32

/-- 'n002_100.FnIntegerRoundTrip': WHATEVER THE INPUT: true; the input reads as it did. -/
def fnIntegerRoundTripSpec : ChangeSpec := { name := "fnIntegerRoundTrip", vars := ["github.com/d5/tengo/v2.MaxStringLen", "github.com/d5/tengo/v2.ErrStringLimit"], fn := fun _ => fun
  | [d1, d2, d3, d4, d5, d6, g1, g2] => { results := [.lit (.bool true)], args := [d1, d2, d3, d4, d5, d6], vars := [g1, g2] }
  | _ => none }
def fnIntegerRoundTripRow : OpenClaim := { program := "ytfpjkkjhdblmkaadoor", sum := "07ab7c80a131cf5782cf66d4525a7161327d50f2ada95111cfb0ba4983ea8bd9", func := "github.com/d5/tengo/v2/n002_100.FnIntegerRoundTrip", spec := "fnIntegerRoundTrip", named := ["github.com/d5/tengo/v2.MaxStringLen", "github.com/d5/tengo/v2.ErrStringLimit"], ifaces := true, apart := false, laid := [("github.com/d5/tengo/v2.ErrStringLimit", laid_github_com_d5_tengo_v2_ErrStringLimit), ("github.com/d5/tengo/v2.MaxStringLen", laid_github_com_d5_tengo_v2_MaxStringLen)] }
def FnIntegerRoundTripSaid : Prop := fnIntegerRoundTripRow.holds Tryd.pinned (OpenSpec.ofChange fnIntegerRoundTripSpec)

/-- ITS FALSE NEIGHBOUR: 'it returns false'. Refute it at one input. -/
def fnIntegerRoundTripWrong : ChangeSpec := { name := "fnIntegerRoundTrip", vars := ["github.com/d5/tengo/v2.MaxStringLen", "github.com/d5/tengo/v2.ErrStringLimit"], fn := fun _ => fun
  | [d1, d2, d3, d4, d5, d6, g1, g2] => { results := [.lit (.bool false)], args := [d1, d2, d3, d4, d5, d6], vars := [g1, g2] }
  | _ => none }
def FnIntegerRoundTripWrongFalsely : Prop := fnIntegerRoundTripRow.holds Tryd.pinned (OpenSpec.ofChange fnIntegerRoundTripWrong)

/-- 'n002_100.FnUnicodeAgreesWithHexInteger': WHATEVER THE INPUT: true; the input reads as it did. -/
def fnUnicodeAgreesWithHexIntegerSpec : ChangeSpec := { name := "fnUnicodeAgreesWithHexInteger", vars := ["github.com/d5/tengo/v2.MaxStringLen", "github.com/d5/tengo/v2.ErrStringLimit"], fn := fun _ => fun
  | [d1, d2, d3, d4, d5, d6, g1, g2] => { results := [.lit (.bool true)], args := [d1, d2, d3, d4, d5, d6], vars := [g1, g2] }
  | _ => none }
def fnUnicodeAgreesWithHexIntegerRow : OpenClaim := { program := "ytfpjkkjhdblmkaadoor", sum := "07ab7c80a131cf5782cf66d4525a7161327d50f2ada95111cfb0ba4983ea8bd9", func := "github.com/d5/tengo/v2/n002_100.FnUnicodeAgreesWithHexInteger", spec := "fnUnicodeAgreesWithHexInteger", named := ["strconv.isPrint16", "strconv.isNotPrint16", "strconv.isPrint32", "strconv.isNotPrint32", "github.com/d5/tengo/v2.MaxStringLen", "github.com/d5/tengo/v2.ErrStringLimit"], ifaces := true, apart := false, laid := [("github.com/d5/tengo/v2.ErrStringLimit", laid_github_com_d5_tengo_v2_ErrStringLimit), ("github.com/d5/tengo/v2.MaxStringLen", laid_github_com_d5_tengo_v2_MaxStringLen), ("strconv.isNotPrint16", laid_strconv_isNotPrint16), ("strconv.isNotPrint32", laid_strconv_isNotPrint32), ("strconv.isPrint16", laid_strconv_isPrint16), ("strconv.isPrint32", laid_strconv_isPrint32)] }
def FnUnicodeAgreesWithHexIntegerSaid : Prop := fnUnicodeAgreesWithHexIntegerRow.holds Tryd.pinned (OpenSpec.ofChange fnUnicodeAgreesWithHexIntegerSpec)

/-- ITS FALSE NEIGHBOUR: 'it returns false'. Refute it at one input. -/
def fnUnicodeAgreesWithHexIntegerWrong : ChangeSpec := { name := "fnUnicodeAgreesWithHexInteger", vars := ["github.com/d5/tengo/v2.MaxStringLen", "github.com/d5/tengo/v2.ErrStringLimit"], fn := fun _ => fun
  | [d1, d2, d3, d4, d5, d6, g1, g2] => { results := [.lit (.bool false)], args := [d1, d2, d3, d4, d5, d6], vars := [g1, g2] }
  | _ => none }
def FnUnicodeAgreesWithHexIntegerWrongFalsely : Prop := fnUnicodeAgreesWithHexIntegerRow.holds Tryd.pinned (OpenSpec.ofChange fnUnicodeAgreesWithHexIntegerWrong)

/-- 'n002_100.FnIntegerSpec': WHATEVER THE INPUT: true; the input reads as it did. -/
def fnIntegerSpecSpec : ChangeSpec := { name := "fnIntegerSpec", vars := ["github.com/d5/tengo/v2.MaxStringLen", "github.com/d5/tengo/v2.ErrStringLimit"], fn := fun _ => fun
  | [d1, d2, d3, d4, d5, d6, d7, d8, d9, d10, g1, g2] => { results := [.lit (.bool true)], args := [d1, d2, d3, d4, d5, d6, d7, d8, d9, d10], vars := [g1, g2] }
  | _ => none }
def fnIntegerSpecRow : OpenClaim := { program := "ytfpjkkjhdblmkaadoor", sum := "07ab7c80a131cf5782cf66d4525a7161327d50f2ada95111cfb0ba4983ea8bd9", func := "github.com/d5/tengo/v2/n002_100.FnIntegerSpec", spec := "fnIntegerSpec", named := ["github.com/d5/tengo/v2.MaxStringLen", "github.com/d5/tengo/v2.ErrStringLimit"], ifaces := true, apart := false, laid := [("github.com/d5/tengo/v2.ErrStringLimit", laid_github_com_d5_tengo_v2_ErrStringLimit), ("github.com/d5/tengo/v2.MaxStringLen", laid_github_com_d5_tengo_v2_MaxStringLen)] }
def FnIntegerSpecSaid : Prop := fnIntegerSpecRow.holds Tryd.pinned (OpenSpec.ofChange fnIntegerSpecSpec)

/-- ITS FALSE NEIGHBOUR: 'it returns false'. Refute it at one input. -/
def fnIntegerSpecWrong : ChangeSpec := { name := "fnIntegerSpec", vars := ["github.com/d5/tengo/v2.MaxStringLen", "github.com/d5/tengo/v2.ErrStringLimit"], fn := fun _ => fun
  | [d1, d2, d3, d4, d5, d6, d7, d8, d9, d10, g1, g2] => { results := [.lit (.bool false)], args := [d1, d2, d3, d4, d5, d6, d7, d8, d9, d10], vars := [g1, g2] }
  | _ => none }
def FnIntegerSpecWrongFalsely : Prop := fnIntegerSpecRow.holds Tryd.pinned (OpenSpec.ofChange fnIntegerSpecWrong)

/-- 'n002_100.FnUnicodeSpec': WHATEVER THE INPUT: true; the input reads as it did. -/
def fnUnicodeSpecSpec : ChangeSpec := { name := "fnUnicodeSpec", vars := ["github.com/d5/tengo/v2.MaxStringLen", "github.com/d5/tengo/v2.ErrStringLimit"], fn := fun _ => fun
  | [d1, d2, d3, d4, d5, d6, d7, d8, d9, d10, g1, g2] => { results := [.lit (.bool true)], args := [d1, d2, d3, d4, d5, d6, d7, d8, d9, d10], vars := [g1, g2] }
  | _ => none }
def fnUnicodeSpecRow : OpenClaim := { program := "ytfpjkkjhdblmkaadoor", sum := "07ab7c80a131cf5782cf66d4525a7161327d50f2ada95111cfb0ba4983ea8bd9", func := "github.com/d5/tengo/v2/n002_100.FnUnicodeSpec", spec := "fnUnicodeSpec", named := ["strconv.isPrint16", "strconv.isNotPrint16", "strconv.isPrint32", "strconv.isNotPrint32", "github.com/d5/tengo/v2.MaxStringLen", "github.com/d5/tengo/v2.ErrStringLimit"], ifaces := true, apart := false, laid := [("github.com/d5/tengo/v2.ErrStringLimit", laid_github_com_d5_tengo_v2_ErrStringLimit), ("github.com/d5/tengo/v2.MaxStringLen", laid_github_com_d5_tengo_v2_MaxStringLen), ("strconv.isNotPrint16", laid_strconv_isNotPrint16), ("strconv.isNotPrint32", laid_strconv_isNotPrint32), ("strconv.isPrint16", laid_strconv_isPrint16), ("strconv.isPrint32", laid_strconv_isPrint32)] }
def FnUnicodeSpecSaid : Prop := fnUnicodeSpecRow.holds Tryd.pinned (OpenSpec.ofChange fnUnicodeSpecSpec)

/-- ITS FALSE NEIGHBOUR: 'it returns false'. Refute it at one input. -/
def fnUnicodeSpecWrong : ChangeSpec := { name := "fnUnicodeSpec", vars := ["github.com/d5/tengo/v2.MaxStringLen", "github.com/d5/tengo/v2.ErrStringLimit"], fn := fun _ => fun
  | [d1, d2, d3, d4, d5, d6, d7, d8, d9, d10, g1, g2] => { results := [.lit (.bool false)], args := [d1, d2, d3, d4, d5, d6, d7, d8, d9, d10], vars := [g1, g2] }
  | _ => none }
def FnUnicodeSpecWrongFalsely : Prop := fnUnicodeSpecRow.holds Tryd.pinned (OpenSpec.ofChange fnUnicodeSpecWrong)

/- THE SECOND FORM. 'bulk': how many values and letters a reading holds, each counted each time it is reached (what is shared counts as often as it is met; a slice's spare places count too). A statement '..UptoSaid' is the law's where the arguments, and the package variables that the reading takes, are together of bulk at most 1048576: NARROWER than '..Said'. Prove '..Said' where nothing that the law and all that it calls make is longer than what came in: it says more and counts as full. Else prove '..UptoSaid'. A law counts once. -/
mutual
def uptoBulk {H : Type} : DataW H → Nat
  | .lit (.string bytes) => bytes.length + 1
  | .lit _ => 1
  | .nil => 1
  | .ptr d => uptoBulk d + 1
  | .slice elems spare => uptoBulkAll elems + uptoBulkAll spare + 1
  | .agg parts => uptoBulkAll parts + 1
  | .iface _ d => uptoBulk d + 1
  | .map entries => uptoBulkEntries entries + 1
  | .held _ => 1
def uptoBulkAll {H : Type} : List (DataW H) → Nat
  | [] => 0
  | d :: r => uptoBulk d + uptoBulkAll r
def uptoBulkEntries {H : Type} : List (Lit × DataW H) → Nat
  | [] => 0
  | x :: r => uptoBulkEntry x + uptoBulkEntries r
def uptoBulkEntry {H : Type} : Lit × DataW H → Nat
  | (.string bytes, d) => bytes.length + uptoBulk d + 1
  | (_, d) => uptoBulk d + 1
 end
def uptoSmall : (H : Type) → List (DataW H) → Bool := fun _ ds => decide (uptoBulkAll ds ≤ 1048576)
def OpenSpec.upto (s : _root_.Go.ChangeSpec) : _root_.Go.OpenSpec := { _root_.Go.OpenSpec.ofChange s with cond := some uptoSmall }

/-- 'n002_100.FnIntegerRoundTrip', WHERE WHAT IT READS IS OF BULK AT MOST 1048576: true; the input reads as it did. -/
def fnIntegerRoundTripUptoRow : OpenClaim := { program := "ytfpjkkjhdblmkaadoor", sum := "07ab7c80a131cf5782cf66d4525a7161327d50f2ada95111cfb0ba4983ea8bd9", func := "github.com/d5/tengo/v2/n002_100.FnIntegerRoundTrip", spec := "fnIntegerRoundTrip", named := ["github.com/d5/tengo/v2.MaxStringLen", "github.com/d5/tengo/v2.ErrStringLimit"], ifaces := true, apart := false, laid := [("github.com/d5/tengo/v2.ErrStringLimit", laid_github_com_d5_tengo_v2_ErrStringLimit), ("github.com/d5/tengo/v2.MaxStringLen", laid_github_com_d5_tengo_v2_MaxStringLen)], narrowed := true }
def FnIntegerRoundTripUptoSaid : Prop := fnIntegerRoundTripUptoRow.holds Tryd.pinned (OpenSpec.upto fnIntegerRoundTripSpec)

/-- 'n002_100.FnUnicodeAgreesWithHexInteger', WHERE WHAT IT READS IS OF BULK AT MOST 1048576: true; the input reads as it did. -/
def fnUnicodeAgreesWithHexIntegerUptoRow : OpenClaim := { program := "ytfpjkkjhdblmkaadoor", sum := "07ab7c80a131cf5782cf66d4525a7161327d50f2ada95111cfb0ba4983ea8bd9", func := "github.com/d5/tengo/v2/n002_100.FnUnicodeAgreesWithHexInteger", spec := "fnUnicodeAgreesWithHexInteger", named := ["strconv.isPrint16", "strconv.isNotPrint16", "strconv.isPrint32", "strconv.isNotPrint32", "github.com/d5/tengo/v2.MaxStringLen", "github.com/d5/tengo/v2.ErrStringLimit"], ifaces := true, apart := false, laid := [("github.com/d5/tengo/v2.ErrStringLimit", laid_github_com_d5_tengo_v2_ErrStringLimit), ("github.com/d5/tengo/v2.MaxStringLen", laid_github_com_d5_tengo_v2_MaxStringLen), ("strconv.isNotPrint16", laid_strconv_isNotPrint16), ("strconv.isNotPrint32", laid_strconv_isNotPrint32), ("strconv.isPrint16", laid_strconv_isPrint16), ("strconv.isPrint32", laid_strconv_isPrint32)], narrowed := true }
def FnUnicodeAgreesWithHexIntegerUptoSaid : Prop := fnUnicodeAgreesWithHexIntegerUptoRow.holds Tryd.pinned (OpenSpec.upto fnUnicodeAgreesWithHexIntegerSpec)

/-- 'n002_100.FnIntegerSpec', WHERE WHAT IT READS IS OF BULK AT MOST 1048576: true; the input reads as it did. -/
def fnIntegerSpecUptoRow : OpenClaim := { program := "ytfpjkkjhdblmkaadoor", sum := "07ab7c80a131cf5782cf66d4525a7161327d50f2ada95111cfb0ba4983ea8bd9", func := "github.com/d5/tengo/v2/n002_100.FnIntegerSpec", spec := "fnIntegerSpec", named := ["github.com/d5/tengo/v2.MaxStringLen", "github.com/d5/tengo/v2.ErrStringLimit"], ifaces := true, apart := false, laid := [("github.com/d5/tengo/v2.ErrStringLimit", laid_github_com_d5_tengo_v2_ErrStringLimit), ("github.com/d5/tengo/v2.MaxStringLen", laid_github_com_d5_tengo_v2_MaxStringLen)], narrowed := true }
def FnIntegerSpecUptoSaid : Prop := fnIntegerSpecUptoRow.holds Tryd.pinned (OpenSpec.upto fnIntegerSpecSpec)

/-- 'n002_100.FnUnicodeSpec', WHERE WHAT IT READS IS OF BULK AT MOST 1048576: true; the input reads as it did. -/
def fnUnicodeSpecUptoRow : OpenClaim := { program := "ytfpjkkjhdblmkaadoor", sum := "07ab7c80a131cf5782cf66d4525a7161327d50f2ada95111cfb0ba4983ea8bd9", func := "github.com/d5/tengo/v2/n002_100.FnUnicodeSpec", spec := "fnUnicodeSpec", named := ["strconv.isPrint16", "strconv.isNotPrint16", "strconv.isPrint32", "strconv.isNotPrint32", "github.com/d5/tengo/v2.MaxStringLen", "github.com/d5/tengo/v2.ErrStringLimit"], ifaces := true, apart := false, laid := [("github.com/d5/tengo/v2.ErrStringLimit", laid_github_com_d5_tengo_v2_ErrStringLimit), ("github.com/d5/tengo/v2.MaxStringLen", laid_github_com_d5_tengo_v2_MaxStringLen), ("strconv.isNotPrint16", laid_strconv_isNotPrint16), ("strconv.isNotPrint32", laid_strconv_isNotPrint32), ("strconv.isPrint16", laid_strconv_isPrint16), ("strconv.isPrint32", laid_strconv_isPrint32)], narrowed := true }
def FnUnicodeSpecUptoSaid : Prop := fnUnicodeSpecUptoRow.holds Tryd.pinned (OpenSpec.upto fnUnicodeSpecSpec)

end Rows
end Go.Proofs.YtfpjkkjhdblmkaaDoor
