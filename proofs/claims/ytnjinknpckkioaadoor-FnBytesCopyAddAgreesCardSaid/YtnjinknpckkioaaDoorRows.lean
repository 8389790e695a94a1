/-
  NARROWER THAN 'FOR EVERY INPUT', by the rows' own cells (each row's printed sentence says how): FnBytesAddRefusesOtherTypes: ifaces, laid · FnBytesAddConcat: ifaces, laid · FnBytesCopyAddAgrees: ifaces, laid.
  DERIVED. THE GIVEN ROWS OF THIS SEAT. 3 by the template 'for every input the law returns true; each argument reads behind the call as it read before'; 0 by the template 'total and deterministic' (their statements: YtnjinknpckkioaaDoorTotals.lean).
  GIVEN WITH THE SEED: the statements are not yours to turn. If you find one false, say at which input.
  Laid BY PROGRAM, IN A SANDBOX (cutbox-rows.mjs): the forced cells as the released guide's own fill.sh prints them over the translation 66670d3478f3beed… (all of the seat's roots in one cut). By AI agents, Wed Nov 11 2026. No macro, syntax, notation, axiom, sorry.
-/
import Derived.Test.YtnjinknpckkioaaDoorChecked
import GoSem.Claim
import GoSem.ClaimJoined
import GoSem.ClaimMapViews
import Derived.JoinedTies
import Derived.KernelRfl
namespace Go.Proofs.YtnjinknpckkioaaDoor
/- THE CELL 'sum', in the pinned program and in every row, IS THE sha256 OF THE DUMP (.gsa) THAT YtnjinknpckkioaaDoorProg.lean LOADS. Nothing in Lean hashes anything: it is a label: what it is worth is what the hold of that sum in a sandbox is worth. -/
noncomputable def Tryd.pinned : Pinned := { name := "ytnjinknpckkioaadoor", sum := "66670d3478f3beedfd3fedcadd0194e93e4bc865932ad3053abdafe62e9be672", checked := Tryd.checked }
namespace Rows
def none {H : Type} : Left H := { results := [], args := [] }

/- WHAT THE LISTED PACKAGE-LEVEL VARIABLES READ AS WHEN THE CALL BEGINS. Each datum BY PROGRAM (the guide's laid-datum.mjs) off the statement by which the dump's own 'gosem.cut.vars' lays the variable. In a bare row this is a premise. The card (YtnjinknpckkioaaDoorCards.lean) ties it to the program's text. -/
def laid_github_com_d5_tengo_v2_ErrInvalidOperator {H : Type} : DataW H := .iface "*errors.errorString" (.ptr (.agg [.lit (.string [105, 110, 118, 97, 108, 105, 100, 32, 111, 112, 101, 114, 97, 116, 111, 114])]))
def laid_github_com_d5_tengo_v2_ErrBytesLimit {H : Type} : DataW H := .iface "*errors.errorString" (.ptr (.agg [.lit (.string [101, 120, 99, 101, 101, 100, 105, 110, 103, 32, 98, 121, 116, 101, 115, 32, 115, 105, 122, 101, 32, 108, 105, 109, 105, 116])]))
def laid_github_com_d5_tengo_v2_MaxBytesLen {H : Type} : DataW H := .lit (.int .i64 2147483647)

/-- 'n002_13.FnBytesAddRefusesOtherTypes': WHATEVER THE INPUT: true; the input reads as it did. -/
def fnBytesAddRefusesOtherTypesSpec : ChangeSpec := { name := "fnBytesAddRefusesOtherTypes", vars := ["github.com/d5/tengo/v2.ErrInvalidOperator", "github.com/d5/tengo/v2.MaxBytesLen", "github.com/d5/tengo/v2.ErrBytesLimit"], fn := fun _ => fun
  | [d1, d2, d3, d4, g1, g2, g3] => { results := [.lit (.bool true)], args := [d1, d2, d3, d4], vars := [g1, g2, g3] }
  | _ => none }
def fnBytesAddRefusesOtherTypesRow : OpenClaim := { program := "ytnjinknpckkioaadoor", sum := "66670d3478f3beedfd3fedcadd0194e93e4bc865932ad3053abdafe62e9be672", func := "github.com/d5/tengo/v2/n002_13.FnBytesAddRefusesOtherTypes", spec := "fnBytesAddRefusesOtherTypes", named := ["github.com/d5/tengo/v2.ErrInvalidOperator", "github.com/d5/tengo/v2.MaxBytesLen", "github.com/d5/tengo/v2.ErrBytesLimit"], ifaces := true, apart := false, laid := [("github.com/d5/tengo/v2.ErrInvalidOperator", laid_github_com_d5_tengo_v2_ErrInvalidOperator), ("github.com/d5/tengo/v2.ErrBytesLimit", laid_github_com_d5_tengo_v2_ErrBytesLimit), ("github.com/d5/tengo/v2.MaxBytesLen", laid_github_com_d5_tengo_v2_MaxBytesLen)] }
def FnBytesAddRefusesOtherTypesSaid : Prop := fnBytesAddRefusesOtherTypesRow.holds Tryd.pinned (OpenSpec.ofChange fnBytesAddRefusesOtherTypesSpec)

/-- ITS FALSE NEIGHBOUR: 'it returns false'. Refute it at one input. -/
def fnBytesAddRefusesOtherTypesWrong : ChangeSpec := { name := "fnBytesAddRefusesOtherTypes", vars := ["github.com/d5/tengo/v2.ErrInvalidOperator", "github.com/d5/tengo/v2.MaxBytesLen", "github.com/d5/tengo/v2.ErrBytesLimit"], fn := fun _ => fun
  | [d1, d2, d3, d4, g1, g2, g3] => { results := [.lit (.bool false)], args := [d1, d2, d3, d4], vars := [g1, g2, g3] }
  | _ => none }
def FnBytesAddRefusesOtherTypesWrongFalsely : Prop := fnBytesAddRefusesOtherTypesRow.holds Tryd.pinned (OpenSpec.ofChange fnBytesAddRefusesOtherTypesWrong)

/-- 'n002_13.FnBytesAddConcat': WHATEVER THE INPUT: true; the input reads as it did. -/
def fnBytesAddConcatSpec : ChangeSpec := { name := "fnBytesAddConcat", vars := ["github.com/d5/tengo/v2.ErrInvalidOperator", "github.com/d5/tengo/v2.MaxBytesLen", "github.com/d5/tengo/v2.ErrBytesLimit"], fn := fun _ => fun
  | [d1, d2, d3, d4, g1, g2, g3] => { results := [.lit (.bool true)], args := [d1, d2, d3, d4], vars := [g1, g2, g3] }
  | _ => none }
def fnBytesAddConcatRow : OpenClaim := { program := "ytnjinknpckkioaadoor", sum := "66670d3478f3beedfd3fedcadd0194e93e4bc865932ad3053abdafe62e9be672", func := "github.com/d5/tengo/v2/n002_13.FnBytesAddConcat", spec := "fnBytesAddConcat", unfollowed := true, recurses := true, named := ["github.com/d5/tengo/v2.ErrInvalidOperator", "github.com/d5/tengo/v2.MaxBytesLen", "github.com/d5/tengo/v2.ErrBytesLimit"], ifaces := true, apart := false, laid := [("github.com/d5/tengo/v2.ErrInvalidOperator", laid_github_com_d5_tengo_v2_ErrInvalidOperator), ("github.com/d5/tengo/v2.ErrBytesLimit", laid_github_com_d5_tengo_v2_ErrBytesLimit), ("github.com/d5/tengo/v2.MaxBytesLen", laid_github_com_d5_tengo_v2_MaxBytesLen)] }
def FnBytesAddConcatSaid : Prop := fnBytesAddConcatRow.holds Tryd.pinned (OpenSpec.ofChange fnBytesAddConcatSpec)

/-- ITS FALSE NEIGHBOUR: 'it returns false'. Refute it at one input. -/
def fnBytesAddConcatWrong : ChangeSpec := { name := "fnBytesAddConcat", vars := ["github.com/d5/tengo/v2.ErrInvalidOperator", "github.com/d5/tengo/v2.MaxBytesLen", "github.com/d5/tengo/v2.ErrBytesLimit"], fn := fun _ => fun
  | [d1, d2, d3, d4, g1, g2, g3] => { results := [.lit (.bool false)], args := [d1, d2, d3, d4], vars := [g1, g2, g3] }
  | _ => none }
def FnBytesAddConcatWrongFalsely : Prop := fnBytesAddConcatRow.holds Tryd.pinned (OpenSpec.ofChange fnBytesAddConcatWrong)

/-- 'n002_13.FnBytesCopyAddAgrees': WHATEVER THE INPUT: true; the input reads as it did. -/
def fnBytesCopyAddAgreesSpec : ChangeSpec := { name := "fnBytesCopyAddAgrees", vars := ["github.com/d5/tengo/v2.MaxBytesLen", "github.com/d5/tengo/v2.ErrBytesLimit", "github.com/d5/tengo/v2.ErrInvalidOperator"], fn := fun _ => fun
  | [d1, d2, g1, g2, g3] => { results := [.lit (.bool true)], args := [d1, d2], vars := [g1, g2, g3] }
  | _ => none }
def fnBytesCopyAddAgreesRow : OpenClaim := { program := "ytnjinknpckkioaadoor", sum := "66670d3478f3beedfd3fedcadd0194e93e4bc865932ad3053abdafe62e9be672", func := "github.com/d5/tengo/v2/n002_13.FnBytesCopyAddAgrees", spec := "fnBytesCopyAddAgrees", unfollowed := true, recurses := true, named := ["github.com/d5/tengo/v2.MaxBytesLen", "github.com/d5/tengo/v2.ErrBytesLimit", "github.com/d5/tengo/v2.ErrInvalidOperator"], ifaces := true, apart := false, laid := [("github.com/d5/tengo/v2.ErrInvalidOperator", laid_github_com_d5_tengo_v2_ErrInvalidOperator), ("github.com/d5/tengo/v2.ErrBytesLimit", laid_github_com_d5_tengo_v2_ErrBytesLimit), ("github.com/d5/tengo/v2.MaxBytesLen", laid_github_com_d5_tengo_v2_MaxBytesLen)] }
def FnBytesCopyAddAgreesSaid : Prop := fnBytesCopyAddAgreesRow.holds Tryd.pinned (OpenSpec.ofChange fnBytesCopyAddAgreesSpec)

/-- ITS FALSE NEIGHBOUR: 'it returns false'. Refute it at one input. -/
def fnBytesCopyAddAgreesWrong : ChangeSpec := { name := "fnBytesCopyAddAgrees", vars := ["github.com/d5/tengo/v2.MaxBytesLen", "github.com/d5/tengo/v2.ErrBytesLimit", "github.com/d5/tengo/v2.ErrInvalidOperator"], fn := fun _ => fun
  | [d1, d2, g1, g2, g3] => { results := [.lit (.bool false)], args := [d1, d2], vars := [g1, g2, g3] }
  | _ => none }
def FnBytesCopyAddAgreesWrongFalsely : Prop := fnBytesCopyAddAgreesRow.holds Tryd.pinned (OpenSpec.ofChange fnBytesCopyAddAgreesWrong)

/- THE SECOND FORM. 'bulk': how many values and letters a reading holds, each counted each time it is reached (what is shared counts as often as it is met; a slice's spare places count too). A statement '..UptoSaid' is the law's where the arguments, and the package variables that the reading takes, are together of bulk at most 1048576: NARROWER than '..Said'. Prove '..Said' where nothing that the law and all that it calls make is longer than what came in: it says more and counts as full. Else prove '..UptoSaid'. A law counts once. -/
mutual
def uptoBulk {H : Type} : DataW H → Nat
  | .lit (.string bytes) => bytes.length + 1
  | .lit _ => 1
  | .nil => 1
  | .ptr d => uptoBulk d + 1
  | .slice elems spare => uptoBulkAll elems + uptoBulkAll spare + 1
  | .agg parts => uptoBulkAll parts + 1
  | .iface _ d => uptoBulk d + 1
  | .map entries => uptoBulkEntries entries + 1
  | .held _ => 1
def uptoBulkAll {H : Type} : List (DataW H) → Nat
  | [] => 0
  | d :: r => uptoBulk d + uptoBulkAll r
def uptoBulkEntries {H : Type} : List (Lit × DataW H) → Nat
  | [] => 0
  | x :: r => uptoBulkEntry x + uptoBulkEntries r
def uptoBulkEntry {H : Type} : Lit × DataW H → Nat
  | (.string bytes, d) => bytes.length + uptoBulk d + 1
  | (_, d) => uptoBulk d + 1
 end
def uptoSmall : (H : Type) → List (DataW H) → Bool := fun _ ds => decide (uptoBulkAll ds ≤ 1048576)
def OpenSpec.upto (s : _root_.Go.ChangeSpec) : _root_.Go.OpenSpec := { _root_.Go.OpenSpec.ofChange s with cond := some uptoSmall }

/-- 'n002_13.FnBytesAddRefusesOtherTypes', WHERE WHAT IT READS IS OF BULK AT MOST 1048576: true; the input reads as it did. -/
def fnBytesAddRefusesOtherTypesUptoRow : OpenClaim := { program := "ytnjinknpckkioaadoor", sum := "66670d3478f3beedfd3fedcadd0194e93e4bc865932ad3053abdafe62e9be672", func := "github.com/d5/tengo/v2/n002_13.FnBytesAddRefusesOtherTypes", spec := "fnBytesAddRefusesOtherTypes", named := ["github.com/d5/tengo/v2.ErrInvalidOperator", "github.com/d5/tengo/v2.MaxBytesLen", "github.com/d5/tengo/v2.ErrBytesLimit"], ifaces := true, apart := false, laid := [("github.com/d5/tengo/v2.ErrInvalidOperator", laid_github_com_d5_tengo_v2_ErrInvalidOperator), ("github.com/d5/tengo/v2.ErrBytesLimit", laid_github_com_d5_tengo_v2_ErrBytesLimit), ("github.com/d5/tengo/v2.MaxBytesLen", laid_github_com_d5_tengo_v2_MaxBytesLen)], narrowed := true }
def FnBytesAddRefusesOtherTypesUptoSaid : Prop := fnBytesAddRefusesOtherTypesUptoRow.holds Tryd.pinned (OpenSpec.upto fnBytesAddRefusesOtherTypesSpec)

/-- 'n002_13.FnBytesAddConcat', WHERE WHAT IT READS IS OF BULK AT MOST 1048576: true; the input reads as it did. -/
def fnBytesAddConcatUptoRow : OpenClaim := { program := "ytnjinknpckkioaadoor", sum := "66670d3478f3beedfd3fedcadd0194e93e4bc865932ad3053abdafe62e9be672", func := "github.com/d5/tengo/v2/n002_13.FnBytesAddConcat", spec := "fnBytesAddConcat", unfollowed := true, recurses := true, named := ["github.com/d5/tengo/v2.ErrInvalidOperator", "github.com/d5/tengo/v2.MaxBytesLen", "github.com/d5/tengo/v2.ErrBytesLimit"], ifaces := true, apart := false, laid := [("github.com/d5/tengo/v2.ErrInvalidOperator", laid_github_com_d5_tengo_v2_ErrInvalidOperator), ("github.com/d5/tengo/v2.ErrBytesLimit", laid_github_com_d5_tengo_v2_ErrBytesLimit), ("github.com/d5/tengo/v2.MaxBytesLen", laid_github_com_d5_tengo_v2_MaxBytesLen)], narrowed := true }
def FnBytesAddConcatUptoSaid : Prop := fnBytesAddConcatUptoRow.holds Tryd.pinned (OpenSpec.upto fnBytesAddConcatSpec)

/-- 'n002_13.FnBytesCopyAddAgrees', WHERE WHAT IT READS IS OF BULK AT MOST 1048576: true; the input reads as it did. -/
def fnBytesCopyAddAgreesUptoRow : OpenClaim := { program := "ytnjinknpckkioaadoor", sum := "66670d3478f3beedfd3fedcadd0194e93e4bc865932ad3053abdafe62e9be672", func := "github.com/d5/tengo/v2/n002_13.FnBytesCopyAddAgrees", spec := "fnBytesCopyAddAgrees", unfollowed := true, recurses := true, named := ["github.com/d5/tengo/v2.MaxBytesLen", "github.com/d5/tengo/v2.ErrBytesLimit", "github.com/d5/tengo/v2.ErrInvalidOperator"], ifaces := true, apart := false, laid := [("github.com/d5/tengo/v2.ErrInvalidOperator", laid_github_com_d5_tengo_v2_ErrInvalidOperator), ("github.com/d5/tengo/v2.ErrBytesLimit", laid_github_com_d5_tengo_v2_ErrBytesLimit), ("github.com/d5/tengo/v2.MaxBytesLen", laid_github_com_d5_tengo_v2_MaxBytesLen)], narrowed := true }
def FnBytesCopyAddAgreesUptoSaid : Prop := fnBytesCopyAddAgreesUptoRow.holds Tryd.pinned (OpenSpec.upto fnBytesCopyAddAgreesSpec)

end Rows
end Go.Proofs.YtnjinknpckkioaaDoor
