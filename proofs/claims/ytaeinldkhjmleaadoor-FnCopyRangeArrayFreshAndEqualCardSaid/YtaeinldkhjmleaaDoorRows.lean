/-
  NARROWER THAN 'FOR EVERY INPUT', by the rows' own cells (each row's printed sentence says how): FnImmutableArrayTypeNameFixed: ifaces, laid · FnCopyRangeArrayFreshAndEqual: ifaces, laid.
  DERIVED. THE GIVEN ROWS OF THIS SEAT. 2 by the template 'for every input the law returns true; each argument reads behind the call as it read before'; 0 by the template 'total and deterministic' (their statements: YtaeinldkhjmleaaDoorTotals.lean).
  GIVEN WITH THE SEED: the statements are not yours to turn. If you find one false, say at which input.
  Laid BY PROGRAM, IN A SANDBOX (cutbox-rows.mjs): the forced cells as the released guide's own fill.sh prints them over the translation 0c651271fc886b17… (all of the seat's roots in one cut). By AI agents, Wed Nov 11 2026. No macro, syntax, notation, axiom, sorry.
-/
import Derived.Test.YtaeinldkhjmleaaDoorChecked
import GoSem.Claim
import GoSem.ClaimJoined
import GoSem.ClaimMapViews
import Derived.JoinedTies
import Derived.KernelRfl
namespace Go.Proofs.YtaeinldkhjmleaaDoor
/- THE CELL 'sum', in the pinned program and in every row, IS THE sha256 OF THE DUMP (.gsa) THAT YtaeinldkhjmleaaDoorProg.lean LOADS. Nothing in Lean hashes anything: it is a label: what it is worth is what the hold of that sum in a sandbox is worth. -/
noncomputable def Tryd.pinned : Pinned := { name := "ytaeinldkhjmleaadoor", sum := "0c651271fc886b1765a1098e7b35ba56e68435addd4741a60287928e153e6bf8", checked := Tryd.checked }
namespace Rows
def none {H : Type} : Left H := { results := [], args := [] }

/- WHAT THE LISTED PACKAGE-LEVEL VARIABLES READ AS WHEN THE CALL BEGINS. Each datum BY PROGRAM (the guide's laid-datum.mjs) off the statement by which the dump's own 'gosem.cut.vars' lays the variable. In a bare row this is a premise. The card (YtaeinldkhjmleaaDoorCards.lean) ties it to the program's text. -/
def laid_github_com_d5_tengo_v2_ErrInvalidOperator {H : Type} : DataW H := .iface "*errors.errorString" (.ptr (.agg [.lit (.string [105, 110, 118, 97, 108, 105, 100, 32, 111, 112, 101, 114, 97, 116, 111, 114])]))
def laid_github_com_d5_tengo_v2_ErrWrongNumArguments {H : Type} : DataW H := .iface "*errors.errorString" (.ptr (.agg [.lit (.string [119, 114, 111, 110, 103, 32, 110, 117, 109, 98, 101, 114, 32, 111, 102, 32, 97, 114, 103, 117, 109, 101, 110, 116, 115])]))

/-- 'n002_116.FnImmutableArrayTypeNameFixed': WHATEVER THE INPUT: true; the input reads as it did. -/
def fnImmutableArrayTypeNameFixedSpec : ChangeSpec := { name := "fnImmutableArrayTypeNameFixed", vars := ["github.com/d5/tengo/v2.ErrInvalidOperator"], fn := fun _ => fun
  | [d1, d2, g1] => { results := [.lit (.bool true)], args := [d1, d2], vars := [g1] }
  | _ => none }
def fnImmutableArrayTypeNameFixedRow : OpenClaim := { program := "ytaeinldkhjmleaadoor", sum := "0c651271fc886b1765a1098e7b35ba56e68435addd4741a60287928e153e6bf8", func := "github.com/d5/tengo/v2/n002_116.FnImmutableArrayTypeNameFixed", spec := "fnImmutableArrayTypeNameFixed", unfollowed := true, recurses := true, named := ["github.com/d5/tengo/v2.ErrInvalidOperator"], ifaces := true, apart := false, laid := [("github.com/d5/tengo/v2.ErrInvalidOperator", laid_github_com_d5_tengo_v2_ErrInvalidOperator)] }
def FnImmutableArrayTypeNameFixedSaid : Prop := fnImmutableArrayTypeNameFixedRow.holds Tryd.pinned (OpenSpec.ofChange fnImmutableArrayTypeNameFixedSpec)

/-- ITS FALSE NEIGHBOUR: 'it returns false'. Refute it at one input. -/
def fnImmutableArrayTypeNameFixedWrong : ChangeSpec := { name := "fnImmutableArrayTypeNameFixed", vars := ["github.com/d5/tengo/v2.ErrInvalidOperator"], fn := fun _ => fun
  | [d1, d2, g1] => { results := [.lit (.bool false)], args := [d1, d2], vars := [g1] }
  | _ => none }
def FnImmutableArrayTypeNameFixedWrongFalsely : Prop := fnImmutableArrayTypeNameFixedRow.holds Tryd.pinned (OpenSpec.ofChange fnImmutableArrayTypeNameFixedWrong)

/-- 'n002_131.FnCopyRangeArrayFreshAndEqual': WHATEVER THE INPUT: true; the input reads as it did. -/
def fnCopyRangeArrayFreshAndEqualSpec : ChangeSpec := { name := "fnCopyRangeArrayFreshAndEqual", vars := ["github.com/d5/tengo/v2.ErrWrongNumArguments"], fn := fun _ => fun
  | [d1, d2, g1] => { results := [.lit (.bool true)], args := [d1, d2], vars := [g1] }
  | _ => none }
def fnCopyRangeArrayFreshAndEqualRow : OpenClaim := { program := "ytaeinldkhjmleaadoor", sum := "0c651271fc886b1765a1098e7b35ba56e68435addd4741a60287928e153e6bf8", func := "github.com/d5/tengo/v2/n002_131.FnCopyRangeArrayFreshAndEqual", spec := "fnCopyRangeArrayFreshAndEqual", unfollowed := true, recurses := true, named := ["github.com/d5/tengo/v2.ErrWrongNumArguments"], ifaces := true, apart := false, laid := [("github.com/d5/tengo/v2.ErrWrongNumArguments", laid_github_com_d5_tengo_v2_ErrWrongNumArguments)] }
def FnCopyRangeArrayFreshAndEqualSaid : Prop := fnCopyRangeArrayFreshAndEqualRow.holds Tryd.pinned (OpenSpec.ofChange fnCopyRangeArrayFreshAndEqualSpec)

/-- ITS FALSE NEIGHBOUR: 'it returns false'. Refute it at one input. -/
def fnCopyRangeArrayFreshAndEqualWrong : ChangeSpec := { name := "fnCopyRangeArrayFreshAndEqual", vars := ["github.com/d5/tengo/v2.ErrWrongNumArguments"], fn := fun _ => fun
  | [d1, d2, g1] => { results := [.lit (.bool false)], args := [d1, d2], vars := [g1] }
  | _ => none }
def FnCopyRangeArrayFreshAndEqualWrongFalsely : Prop := fnCopyRangeArrayFreshAndEqualRow.holds Tryd.pinned (OpenSpec.ofChange fnCopyRangeArrayFreshAndEqualWrong)

/- THE SECOND FORM. 'bulk': how many values and letters a reading holds, each counted each time it is reached (what is shared counts as often as it is met; a slice's spare places count too). A statement '..UptoSaid' is the law's where the arguments, and the package variables that the reading takes, are together of bulk at most 1048576: NARROWER than '..Said'. Prove '..Said' where nothing that the law and all that it calls make is longer than what came in: it says more and counts as full. Else prove '..UptoSaid'. A law counts once. -/
mutual
def uptoBulk {H : Type} : DataW H → Nat
  | .lit (.string bytes) => bytes.length + 1
  | .lit _ => 1
  | .nil => 1
  | .ptr d => uptoBulk d + 1
  | .slice elems spare => uptoBulkAll elems + uptoBulkAll spare + 1
  | .agg parts => uptoBulkAll parts + 1
  | .iface _ d => uptoBulk d + 1
  | .map entries => uptoBulkEntries entries + 1
  | .held _ => 1
def uptoBulkAll {H : Type} : List (DataW H) → Nat
  | [] => 0
  | d :: r => uptoBulk d + uptoBulkAll r
def uptoBulkEntries {H : Type} : List (Lit × DataW H) → Nat
  | [] => 0
  | x :: r => uptoBulkEntry x + uptoBulkEntries r
def uptoBulkEntry {H : Type} : Lit × DataW H → Nat
  | (.string bytes, d) => bytes.length + uptoBulk d + 1
  | (_, d) => uptoBulk d + 1
 end
def uptoSmall : (H : Type) → List (DataW H) → Bool := fun _ ds => decide (uptoBulkAll ds ≤ 1048576)
def OpenSpec.upto (s : _root_.Go.ChangeSpec) : _root_.Go.OpenSpec := { _root_.Go.OpenSpec.ofChange s with cond := some uptoSmall }

/-- 'n002_116.FnImmutableArrayTypeNameFixed', WHERE WHAT IT READS IS OF BULK AT MOST 1048576: true; the input reads as it did. -/
def fnImmutableArrayTypeNameFixedUptoRow : OpenClaim := { program := "ytaeinldkhjmleaadoor", sum := "0c651271fc886b1765a1098e7b35ba56e68435addd4741a60287928e153e6bf8", func := "github.com/d5/tengo/v2/n002_116.FnImmutableArrayTypeNameFixed", spec := "fnImmutableArrayTypeNameFixed", unfollowed := true, recurses := true, named := ["github.com/d5/tengo/v2.ErrInvalidOperator"], ifaces := true, apart := false, laid := [("github.com/d5/tengo/v2.ErrInvalidOperator", laid_github_com_d5_tengo_v2_ErrInvalidOperator)], narrowed := true }
def FnImmutableArrayTypeNameFixedUptoSaid : Prop := fnImmutableArrayTypeNameFixedUptoRow.holds Tryd.pinned (OpenSpec.upto fnImmutableArrayTypeNameFixedSpec)

/-- 'n002_131.FnCopyRangeArrayFreshAndEqual', WHERE WHAT IT READS IS OF BULK AT MOST 1048576: true; the input reads as it did. -/
def fnCopyRangeArrayFreshAndEqualUptoRow : OpenClaim := { program := "ytaeinldkhjmleaadoor", sum := "0c651271fc886b1765a1098e7b35ba56e68435addd4741a60287928e153e6bf8", func := "github.com/d5/tengo/v2/n002_131.FnCopyRangeArrayFreshAndEqual", spec := "fnCopyRangeArrayFreshAndEqual", unfollowed := true, recurses := true, named := ["github.com/d5/tengo/v2.ErrWrongNumArguments"], ifaces := true, apart := false, laid := [("github.com/d5/tengo/v2.ErrWrongNumArguments", laid_github_com_d5_tengo_v2_ErrWrongNumArguments)], narrowed := true }
def FnCopyRangeArrayFreshAndEqualUptoSaid : Prop := fnCopyRangeArrayFreshAndEqualUptoRow.holds Tryd.pinned (OpenSpec.upto fnCopyRangeArrayFreshAndEqualSpec)

end Rows
end Go.Proofs.YtaeinldkhjmleaaDoor
