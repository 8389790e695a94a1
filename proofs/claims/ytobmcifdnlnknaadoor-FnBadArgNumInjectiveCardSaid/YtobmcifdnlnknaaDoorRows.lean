/-
  NARROWER THAN 'FOR EVERY INPUT', by the rows' own cells (each row's printed sentence says how): FnBadArgNumExact: ifaces, laid · FnMissingArgExact: ifaces, laid · FnBadArgNumInjective: ifaces, laid · FnBinaryOpRefusalInheritedByMapUndefinedError: ifaces, laid.
  DERIVED. THE GIVEN ROWS OF THIS SEAT. 4 by the template 'for every input the law returns true; each argument reads behind the call as it read before'; 0 by the template 'total and deterministic' (their statements: YtobmcifdnlnknaaDoorTotals.lean).
  GIVEN WITH THE SEED: the statements are not yours to turn. If you find one false, say at which input.
  Laid BY PROGRAM, IN A SANDBOX (cutbox-rows.mjs): the forced cells as the released guide's own fill.sh prints them over the translation fbebb2b62531ced5… (all of the seat's roots in one cut). By AI agents, Wed Nov 11 2026. No macro, syntax, notation, axiom, sorry.
-/
import Derived.Test.YtobmcifdnlnknaaDoorChecked
import GoSem.Claim
import GoSem.ClaimJoined
import GoSem.ClaimMapViews
import Derived.JoinedTies
import Derived.KernelRfl
namespace Go.Proofs.YtobmcifdnlnknaaDoor
/- THE CELL 'sum', in the pinned program and in every row, IS THE sha256 OF THE DUMP (.gsa) THAT YtobmcifdnlnknaaDoorProg.lean LOADS. Nothing in Lean hashes anything: it is a label: what it is worth is what the hold of that sum in a sandbox is worth. -/
noncomputable def Tryd.pinned : Pinned := { name := "ytobmcifdnlnknaadoor", sum := "fbebb2b62531ced5eca21c08ee7ae6b458eb8c3129c3044b073211e704cf7aa4", checked := Tryd.checked }
namespace Rows
def none {H : Type} : Left H := { results := [], args := [] }

/- WHAT THE LISTED PACKAGE-LEVEL VARIABLES READ AS WHEN THE CALL BEGINS. Each datum BY PROGRAM (the guide's laid-datum.mjs) off the statement by which the dump's own 'gosem.cut.vars' lays the variable. In a bare row this is a premise. The card (YtobmcifdnlnknaaDoorCards.lean) ties it to the program's text. -/
def laid_github_com_d5_tengo_v2_ErrStringLimit {H : Type} : DataW H := .iface "*errors.errorString" (.ptr (.agg [.lit (.string [101, 120, 99, 101, 101, 100, 105, 110, 103, 32, 115, 116, 114, 105, 110, 103, 32, 115, 105, 122, 101, 32, 108, 105, 109, 105, 116])]))
def laid_github_com_d5_tengo_v2_MaxStringLen {H : Type} : DataW H := .lit (.int .i64 2147483647)
def laid_github_com_d5_tengo_v2_ErrInvalidOperator {H : Type} : DataW H := .iface "*errors.errorString" (.ptr (.agg [.lit (.string [105, 110, 118, 97, 108, 105, 100, 32, 111, 112, 101, 114, 97, 116, 111, 114])]))

/-- 'n002_113.FnBadArgNumExact': WHATEVER THE INPUT: true; the input reads as it did. -/
def fnBadArgNumExactSpec : ChangeSpec := { name := "fnBadArgNumExact", vars := ["github.com/d5/tengo/v2.MaxStringLen", "github.com/d5/tengo/v2.ErrStringLimit"], fn := fun _ => fun
  | [d, g1, g2] => { results := [.lit (.bool true)], args := [d], vars := [g1, g2] }
  | _ => none }
def fnBadArgNumExactRow : OpenClaim := { program := "ytobmcifdnlnknaadoor", sum := "fbebb2b62531ced5eca21c08ee7ae6b458eb8c3129c3044b073211e704cf7aa4", func := "github.com/d5/tengo/v2/n002_113.FnBadArgNumExact", spec := "fnBadArgNumExact", named := ["github.com/d5/tengo/v2.MaxStringLen", "github.com/d5/tengo/v2.ErrStringLimit"], ifaces := true, apart := false, laid := [("github.com/d5/tengo/v2.ErrStringLimit", laid_github_com_d5_tengo_v2_ErrStringLimit), ("github.com/d5/tengo/v2.MaxStringLen", laid_github_com_d5_tengo_v2_MaxStringLen)] }
def FnBadArgNumExactSaid : Prop := fnBadArgNumExactRow.holds Tryd.pinned (OpenSpec.ofChange fnBadArgNumExactSpec)

/-- ITS FALSE NEIGHBOUR: 'it returns false'. Refute it at one input. -/
def fnBadArgNumExactWrong : ChangeSpec := { name := "fnBadArgNumExact", vars := ["github.com/d5/tengo/v2.MaxStringLen", "github.com/d5/tengo/v2.ErrStringLimit"], fn := fun _ => fun
  | [d, g1, g2] => { results := [.lit (.bool false)], args := [d], vars := [g1, g2] }
  | _ => none }
def FnBadArgNumExactWrongFalsely : Prop := fnBadArgNumExactRow.holds Tryd.pinned (OpenSpec.ofChange fnBadArgNumExactWrong)

/-- 'n002_113.FnMissingArgExact': WHATEVER THE INPUT: true; the input reads as it did. -/
def fnMissingArgExactSpec : ChangeSpec := { name := "fnMissingArgExact", vars := ["github.com/d5/tengo/v2.MaxStringLen", "github.com/d5/tengo/v2.ErrStringLimit"], fn := fun _ => fun
  | [d, g1, g2] => { results := [.lit (.bool true)], args := [d], vars := [g1, g2] }
  | _ => none }
def fnMissingArgExactRow : OpenClaim := { program := "ytobmcifdnlnknaadoor", sum := "fbebb2b62531ced5eca21c08ee7ae6b458eb8c3129c3044b073211e704cf7aa4", func := "github.com/d5/tengo/v2/n002_113.FnMissingArgExact", spec := "fnMissingArgExact", named := ["github.com/d5/tengo/v2.MaxStringLen", "github.com/d5/tengo/v2.ErrStringLimit"], ifaces := true, apart := false, laid := [("github.com/d5/tengo/v2.ErrStringLimit", laid_github_com_d5_tengo_v2_ErrStringLimit), ("github.com/d5/tengo/v2.MaxStringLen", laid_github_com_d5_tengo_v2_MaxStringLen)] }
def FnMissingArgExactSaid : Prop := fnMissingArgExactRow.holds Tryd.pinned (OpenSpec.ofChange fnMissingArgExactSpec)

/-- ITS FALSE NEIGHBOUR: 'it returns false'. Refute it at one input. -/
def fnMissingArgExactWrong : ChangeSpec := { name := "fnMissingArgExact", vars := ["github.com/d5/tengo/v2.MaxStringLen", "github.com/d5/tengo/v2.ErrStringLimit"], fn := fun _ => fun
  | [d, g1, g2] => { results := [.lit (.bool false)], args := [d], vars := [g1, g2] }
  | _ => none }
def FnMissingArgExactWrongFalsely : Prop := fnMissingArgExactRow.holds Tryd.pinned (OpenSpec.ofChange fnMissingArgExactWrong)

/-- 'n002_113.FnBadArgNumInjective': WHATEVER THE INPUT: true; the input reads as it did. -/
def fnBadArgNumInjectiveSpec : ChangeSpec := { name := "fnBadArgNumInjective", vars := ["github.com/d5/tengo/v2.MaxStringLen", "github.com/d5/tengo/v2.ErrStringLimit"], fn := fun _ => fun
  | [d1, d2, g1, g2] => { results := [.lit (.bool true)], args := [d1, d2], vars := [g1, g2] }
  | _ => none }
def fnBadArgNumInjectiveRow : OpenClaim := { program := "ytobmcifdnlnknaadoor", sum := "fbebb2b62531ced5eca21c08ee7ae6b458eb8c3129c3044b073211e704cf7aa4", func := "github.com/d5/tengo/v2/n002_113.FnBadArgNumInjective", spec := "fnBadArgNumInjective", named := ["github.com/d5/tengo/v2.MaxStringLen", "github.com/d5/tengo/v2.ErrStringLimit"], ifaces := true, apart := false, laid := [("github.com/d5/tengo/v2.ErrStringLimit", laid_github_com_d5_tengo_v2_ErrStringLimit), ("github.com/d5/tengo/v2.MaxStringLen", laid_github_com_d5_tengo_v2_MaxStringLen)] }
def FnBadArgNumInjectiveSaid : Prop := fnBadArgNumInjectiveRow.holds Tryd.pinned (OpenSpec.ofChange fnBadArgNumInjectiveSpec)

/-- ITS FALSE NEIGHBOUR: 'it returns false'. Refute it at one input. -/
def fnBadArgNumInjectiveWrong : ChangeSpec := { name := "fnBadArgNumInjective", vars := ["github.com/d5/tengo/v2.MaxStringLen", "github.com/d5/tengo/v2.ErrStringLimit"], fn := fun _ => fun
  | [d1, d2, g1, g2] => { results := [.lit (.bool false)], args := [d1, d2], vars := [g1, g2] }
  | _ => none }
def FnBadArgNumInjectiveWrongFalsely : Prop := fnBadArgNumInjectiveRow.holds Tryd.pinned (OpenSpec.ofChange fnBadArgNumInjectiveWrong)

/-- 'n002_143.FnBinaryOpRefusalInheritedByMapUndefinedError': WHATEVER THE INPUT: true; the input reads as it did. -/
def fnBinaryOpRefusalInheritedByMapUndefinedErrorSpec : ChangeSpec := { name := "fnBinaryOpRefusalInheritedByMapUndefinedError", vars := ["github.com/d5/tengo/v2.ErrInvalidOperator"], fn := fun _ => fun
  | [d1, d2, g1] => { results := [.lit (.bool true)], args := [d1, d2], vars := [g1] }
  | _ => none }
def fnBinaryOpRefusalInheritedByMapUndefinedErrorRow : OpenClaim := { program := "ytobmcifdnlnknaadoor", sum := "fbebb2b62531ced5eca21c08ee7ae6b458eb8c3129c3044b073211e704cf7aa4", func := "github.com/d5/tengo/v2/n002_143.FnBinaryOpRefusalInheritedByMapUndefinedError", spec := "fnBinaryOpRefusalInheritedByMapUndefinedError", named := ["github.com/d5/tengo/v2.ErrInvalidOperator"], ifaces := true, apart := false, laid := [("github.com/d5/tengo/v2.ErrInvalidOperator", laid_github_com_d5_tengo_v2_ErrInvalidOperator)] }
def FnBinaryOpRefusalInheritedByMapUndefinedErrorSaid : Prop := fnBinaryOpRefusalInheritedByMapUndefinedErrorRow.holds Tryd.pinned (OpenSpec.ofChange fnBinaryOpRefusalInheritedByMapUndefinedErrorSpec)

/-- ITS FALSE NEIGHBOUR: 'it returns false'. Refute it at one input. -/
def fnBinaryOpRefusalInheritedByMapUndefinedErrorWrong : ChangeSpec := { name := "fnBinaryOpRefusalInheritedByMapUndefinedError", vars := ["github.com/d5/tengo/v2.ErrInvalidOperator"], fn := fun _ => fun
  | [d1, d2, g1] => { results := [.lit (.bool false)], args := [d1, d2], vars := [g1] }
  | _ => none }
def FnBinaryOpRefusalInheritedByMapUndefinedErrorWrongFalsely : Prop := fnBinaryOpRefusalInheritedByMapUndefinedErrorRow.holds Tryd.pinned (OpenSpec.ofChange fnBinaryOpRefusalInheritedByMapUndefinedErrorWrong)

/- THE SECOND FORM. 'bulk': how many values and letters a reading holds, each counted each time it is reached (what is shared counts as often as it is met; a slice's spare places count too). A statement '..UptoSaid' is the law's where the arguments, and the package variables that the reading takes, are together of bulk at most 1048576: NARROWER than '..Said'. Prove '..Said' where nothing that the law and all that it calls make is longer than what came in: it says more and counts as full. Else prove '..UptoSaid'. A law counts once. -/
mutual
def uptoBulk {H : Type} : DataW H → Nat
  | .lit (.string bytes) => bytes.length + 1
  | .lit _ => 1
  | .nil => 1
  | .ptr d => uptoBulk d + 1
  | .slice elems spare => uptoBulkAll elems + uptoBulkAll spare + 1
  | .agg parts => uptoBulkAll parts + 1
  | .iface _ d => uptoBulk d + 1
  | .map entries => uptoBulkEntries entries + 1
  | .held _ => 1
def uptoBulkAll {H : Type} : List (DataW H) → Nat
  | [] => 0
  | d :: r => uptoBulk d + uptoBulkAll r
def uptoBulkEntries {H : Type} : List (Lit × DataW H) → Nat
  | [] => 0
  | x :: r => uptoBulkEntry x + uptoBulkEntries r
def uptoBulkEntry {H : Type} : Lit × DataW H → Nat
  | (.string bytes, d) => bytes.length + uptoBulk d + 1
  | (_, d) => uptoBulk d + 1
 end
def uptoSmall : (H : Type) → List (DataW H) → Bool := fun _ ds => decide (uptoBulkAll ds ≤ 1048576)
def OpenSpec.upto (s : _root_.Go.ChangeSpec) : _root_.Go.OpenSpec := { _root_.Go.OpenSpec.ofChange s with cond := some uptoSmall }

/-- 'n002_113.FnBadArgNumExact', WHERE WHAT IT READS IS OF BULK AT MOST 1048576: true; the input reads as it did. -/
def fnBadArgNumExactUptoRow : OpenClaim := { program := "ytobmcifdnlnknaadoor", sum := "fbebb2b62531ced5eca21c08ee7ae6b458eb8c3129c3044b073211e704cf7aa4", func := "github.com/d5/tengo/v2/n002_113.FnBadArgNumExact", spec := "fnBadArgNumExact", named := ["github.com/d5/tengo/v2.MaxStringLen", "github.com/d5/tengo/v2.ErrStringLimit"], ifaces := true, apart := false, laid := [("github.com/d5/tengo/v2.ErrStringLimit", laid_github_com_d5_tengo_v2_ErrStringLimit), ("github.com/d5/tengo/v2.MaxStringLen", laid_github_com_d5_tengo_v2_MaxStringLen)], narrowed := true }
def FnBadArgNumExactUptoSaid : Prop := fnBadArgNumExactUptoRow.holds Tryd.pinned (OpenSpec.upto fnBadArgNumExactSpec)

/-- 'n002_113.FnMissingArgExact', WHERE WHAT IT READS IS OF BULK AT MOST 1048576: true; the input reads as it did. -/
def fnMissingArgExactUptoRow : OpenClaim := { program := "ytobmcifdnlnknaadoor", sum := "fbebb2b62531ced5eca21c08ee7ae6b458eb8c3129c3044b073211e704cf7aa4", func := "github.com/d5/tengo/v2/n002_113.FnMissingArgExact", spec := "fnMissingArgExact", named := ["github.com/d5/tengo/v2.MaxStringLen", "github.com/d5/tengo/v2.ErrStringLimit"], ifaces := true, apart := false, laid := [("github.com/d5/tengo/v2.ErrStringLimit", laid_github_com_d5_tengo_v2_ErrStringLimit), ("github.com/d5/tengo/v2.MaxStringLen", laid_github_com_d5_tengo_v2_MaxStringLen)], narrowed := true }
def FnMissingArgExactUptoSaid : Prop := fnMissingArgExactUptoRow.holds Tryd.pinned (OpenSpec.upto fnMissingArgExactSpec)

/-- 'n002_113.FnBadArgNumInjective', WHERE WHAT IT READS IS OF BULK AT MOST 1048576: true; the input reads as it did. -/
def fnBadArgNumInjectiveUptoRow : OpenClaim := { program := "ytobmcifdnlnknaadoor", sum := "fbebb2b62531ced5eca21c08ee7ae6b458eb8c3129c3044b073211e704cf7aa4", func := "github.com/d5/tengo/v2/n002_113.FnBadArgNumInjective", spec := "fnBadArgNumInjective", named := ["github.com/d5/tengo/v2.MaxStringLen", "github.com/d5/tengo/v2.ErrStringLimit"], ifaces := true, apart := false, laid := [("github.com/d5/tengo/v2.ErrStringLimit", laid_github_com_d5_tengo_v2_ErrStringLimit), ("github.com/d5/tengo/v2.MaxStringLen", laid_github_com_d5_tengo_v2_MaxStringLen)], narrowed := true }
def FnBadArgNumInjectiveUptoSaid : Prop := fnBadArgNumInjectiveUptoRow.holds Tryd.pinned (OpenSpec.upto fnBadArgNumInjectiveSpec)

/-- 'n002_143.FnBinaryOpRefusalInheritedByMapUndefinedError', WHERE WHAT IT READS IS OF BULK AT MOST 1048576: true; the input reads as it did. -/
def fnBinaryOpRefusalInheritedByMapUndefinedErrorUptoRow : OpenClaim := { program := "ytobmcifdnlnknaadoor", sum := "fbebb2b62531ced5eca21c08ee7ae6b458eb8c3129c3044b073211e704cf7aa4", func := "github.com/d5/tengo/v2/n002_143.FnBinaryOpRefusalInheritedByMapUndefinedError", spec := "fnBinaryOpRefusalInheritedByMapUndefinedError", named := ["github.com/d5/tengo/v2.ErrInvalidOperator"], ifaces := true, apart := false, laid := [("github.com/d5/tengo/v2.ErrInvalidOperator", laid_github_com_d5_tengo_v2_ErrInvalidOperator)], narrowed := true }
def FnBinaryOpRefusalInheritedByMapUndefinedErrorUptoSaid : Prop := fnBinaryOpRefusalInheritedByMapUndefinedErrorUptoRow.holds Tryd.pinned (OpenSpec.upto fnBinaryOpRefusalInheritedByMapUndefinedErrorSpec)

end Rows
end Go.Proofs.YtobmcifdnlnknaaDoor
