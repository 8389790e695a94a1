/-
  NARROWER THAN 'FOR EVERY INPUT', by the rows' own cells (each row's printed sentence says how): FnImmutableArrayStringAgreesWithArrayAndCopy: ifaces, laid.
  DERIVED. THE GIVEN ROWS OF THIS SEAT. 2 by the template 'for every input the law returns true; each argument reads behind the call as it read before'; 0 by the template 'total and deterministic' (their statements: YtaeinldkhjmleaaFmtTotals.lean).
  GIVEN WITH THE SEED: the statements are not yours to turn. If you find one false, say at which input.
  Laid BY PROGRAM, IN A SANDBOX (cutbox-rows.mjs): the forced cells as the released guide's own fill.sh prints them over the translation d009eed9bae44b3c… (all of the seat's roots in one cut). By AI agents, Wed Nov 11 2026. No macro, syntax, notation, axiom, sorry.
-/
import Derived.Test.YtaeinldkhjmleaaFmtChecked
import GoSem.Claim
import GoSem.ClaimJoined
import GoSem.ClaimMapViews
import Derived.JoinedTies
import Derived.KernelRfl
namespace Go.Proofs.YtaeinldkhjmleaaFmt
/- THE CELL 'sum', in the pinned program and in every row, IS THE sha256 OF THE DUMP (.gsa) THAT YtaeinldkhjmleaaFmtProg.lean LOADS. Nothing in Lean hashes anything: it is a label: what it is worth is what the hold of that sum in a sandbox is worth. -/
noncomputable def Tryf.pinned : Pinned := { name := "ytaeinldkhjmleaafmt", sum := "d009eed9bae44b3c58ae62c26db3e31fe81df0430dd23f545393d05e5ee0a829", checked := Tryf.checked }
namespace Rows
def none {H : Type} : Left H := { results := [], args := [] }

/- WHAT THE LISTED PACKAGE-LEVEL VARIABLES READ AS WHEN THE CALL BEGINS. Each datum BY PROGRAM (the guide's laid-datum.mjs) off the statement by which the dump's own 'gosem.cut.vars' lays the variable. In a bare row this is a premise. The card (YtaeinldkhjmleaaFmtCards.lean) ties it to the program's text. -/
def laid_github_com_d5_tengo_v2_ErrInvalidOperator {H : Type} : DataW H := .iface "*errors.errorString" (.ptr (.agg [.lit (.string [105, 110, 118, 97, 108, 105, 100, 32, 111, 112, 101, 114, 97, 116, 111, 114])]))

/-- 'n002_116.FnImmutableArrayStringIsBracketedDecimalList': WHATEVER THE INPUT: true; the input reads as it did. -/
def fnImmutableArrayStringIsBracketedDecimalListSpec : ChangeSpec := { name := "fnImmutableArrayStringIsBracketedDecimalList", fn := fun _ => fun
  | [d] => { results := [.lit (.bool true)], args := [d] }
  | _ => none }
def fnImmutableArrayStringIsBracketedDecimalListRow : OpenClaim := { program := "ytaeinldkhjmleaafmt", sum := "d009eed9bae44b3c58ae62c26db3e31fe81df0430dd23f545393d05e5ee0a829", func := "github.com/d5/tengo/v2/n002_116.FnImmutableArrayStringIsBracketedDecimalList", spec := "fnImmutableArrayStringIsBracketedDecimalList", stops := ["fmt.Sprintf"], inPlace := ["internal/abi.NoEscape", "internal/bytealg.MakeNoZero", "fmt.Sprintf"], unfollowed := true, recurses := true, apart := false }
/-- NO THEOREM (fmt's text is open here; it may be false): for the released tool's asking of the row's closed facts alone. THE STATEMENT IS 'FnImmutableArrayStringIsBracketedDecimalListToldSaid' (YtaeinldkhjmleaaFmtCards.lean). -/
def FnImmutableArrayStringIsBracketedDecimalListFormAsk : Prop := fnImmutableArrayStringIsBracketedDecimalListRow.holds Tryf.pinned (OpenSpec.ofChange fnImmutableArrayStringIsBracketedDecimalListSpec)

/-- ITS FALSE NEIGHBOUR: 'it returns false'. Refute it at one input. -/
def fnImmutableArrayStringIsBracketedDecimalListWrong : ChangeSpec := { name := "fnImmutableArrayStringIsBracketedDecimalList", fn := fun _ => fun
  | [d] => { results := [.lit (.bool false)], args := [d] }
  | _ => none }
def FnImmutableArrayStringIsBracketedDecimalListWrongFormAsk : Prop := fnImmutableArrayStringIsBracketedDecimalListRow.holds Tryf.pinned (OpenSpec.ofChange fnImmutableArrayStringIsBracketedDecimalListWrong)

/-- 'n002_116.FnImmutableArrayStringAgreesWithArrayAndCopy': WHATEVER THE INPUT: true; the input reads as it did. -/
def fnImmutableArrayStringAgreesWithArrayAndCopySpec : ChangeSpec := { name := "fnImmutableArrayStringAgreesWithArrayAndCopy", vars := ["github.com/d5/tengo/v2.ErrInvalidOperator"], fn := fun _ => fun
  | [d, g1] => { results := [.lit (.bool true)], args := [d], vars := [g1] }
  | _ => none }
def fnImmutableArrayStringAgreesWithArrayAndCopyRow : OpenClaim := { program := "ytaeinldkhjmleaafmt", sum := "d009eed9bae44b3c58ae62c26db3e31fe81df0430dd23f545393d05e5ee0a829", func := "github.com/d5/tengo/v2/n002_116.FnImmutableArrayStringAgreesWithArrayAndCopy", spec := "fnImmutableArrayStringAgreesWithArrayAndCopy", stops := ["fmt.Sprintf"], inPlace := ["internal/abi.NoEscape", "internal/bytealg.MakeNoZero", "fmt.Sprintf"], unfollowed := true, recurses := true, named := ["github.com/d5/tengo/v2.ErrInvalidOperator"], ifaces := true, apart := false, laid := [("github.com/d5/tengo/v2.ErrInvalidOperator", laid_github_com_d5_tengo_v2_ErrInvalidOperator)] }
/-- NO THEOREM (fmt's text is open here; it may be false): for the released tool's asking of the row's closed facts alone. THE STATEMENT IS 'FnImmutableArrayStringAgreesWithArrayAndCopyToldSaid' (YtaeinldkhjmleaaFmtCards.lean). -/
def FnImmutableArrayStringAgreesWithArrayAndCopyFormAsk : Prop := fnImmutableArrayStringAgreesWithArrayAndCopyRow.holds Tryf.pinned (OpenSpec.ofChange fnImmutableArrayStringAgreesWithArrayAndCopySpec)

/-- ITS FALSE NEIGHBOUR: 'it returns false'. Refute it at one input. -/
def fnImmutableArrayStringAgreesWithArrayAndCopyWrong : ChangeSpec := { name := "fnImmutableArrayStringAgreesWithArrayAndCopy", vars := ["github.com/d5/tengo/v2.ErrInvalidOperator"], fn := fun _ => fun
  | [d, g1] => { results := [.lit (.bool false)], args := [d], vars := [g1] }
  | _ => none }
def FnImmutableArrayStringAgreesWithArrayAndCopyWrongFormAsk : Prop := fnImmutableArrayStringAgreesWithArrayAndCopyRow.holds Tryf.pinned (OpenSpec.ofChange fnImmutableArrayStringAgreesWithArrayAndCopyWrong)

end Rows
end Go.Proofs.YtaeinldkhjmleaaFmt
