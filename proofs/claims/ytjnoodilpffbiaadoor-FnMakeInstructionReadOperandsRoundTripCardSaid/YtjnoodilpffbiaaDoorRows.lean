/-
  NARROWER THAN 'FOR EVERY INPUT', by the rows' own cells (each row's printed sentence says how): FnMakeInstructionReadOperandsRoundTrip: laid · FnMakeInstructionExactBytes: laid.
  DERIVED. THE GIVEN ROWS OF THIS SEAT. 2 by the template 'for every input the law returns true; each argument reads behind the call as it read before'; 0 by the template 'total and deterministic' (their statements: YtjnoodilpffbiaaDoorTotals.lean).
  GIVEN WITH THE SEED: the statements are not yours to turn. If you find one false, say at which input.
  Laid BY PROGRAM, IN A SANDBOX (cutbox-rows.mjs): the forced cells as the released guide's own fill.sh prints them over the translation fbea8736d84f9170… (all of the seat's roots in one cut). By AI agents, Wed Nov 11 2026. No macro, syntax, notation, axiom, sorry.
-/
import Derived.Test.YtjnoodilpffbiaaDoorChecked
import GoSem.Claim
import GoSem.ClaimJoined
import GoSem.ClaimMapViews
import Derived.JoinedTies
import Derived.KernelRfl
namespace Go.Proofs.YtjnoodilpffbiaaDoor
/- THE CELL 'sum', in the pinned program and in every row, IS THE sha256 OF THE DUMP (.gsa) THAT YtjnoodilpffbiaaDoorProg.lean LOADS. Nothing in Lean hashes anything: it is a label: what it is worth is what the hold of that sum in a sandbox is worth. -/
noncomputable def Tryd.pinned : Pinned := { name := "ytjnoodilpffbiaadoor", sum := "fbea8736d84f9170c8b4b05e0d01f910e644ee4ccd36dc81fa1d52a6b078ada1", checked := Tryd.checked }
namespace Rows
def none {H : Type} : Left H := { results := [], args := [] }

/- WHAT THE LISTED PACKAGE-LEVEL VARIABLES READ AS WHEN THE CALL BEGINS. Each datum BY PROGRAM (the guide's laid-datum.mjs) off the statement by which the dump's own 'gosem.cut.vars' lays the variable. In a bare row this is a premise. The card (YtjnoodilpffbiaaDoorCards.lean) ties it to the program's text. -/
def laid_github_com_d5_tengo_v2_parser_OpcodeOperands {H : Type} : DataW H := .agg [.slice [.lit (.int .i64 2)] [], .slice [] [], .slice [] [], .slice [] [], .slice [] [], .slice [] [], .slice [] [], .slice [] [], .slice [] [], .slice [.lit (.int .i64 4)] [], .slice [.lit (.int .i64 4)] [], .slice [.lit (.int .i64 4)] [], .slice [.lit (.int .i64 4)] [], .slice [] [], .slice [.lit (.int .i64 2)] [], .slice [.lit (.int .i64 2)] [], .slice [] [], .slice [] [], .slice [] [], .slice [] [], .slice [.lit (.int .i64 1), .lit (.int .i64 1)] [], .slice [.lit (.int .i64 1)] [], .slice [.lit (.int .i64 2)] [], .slice [.lit (.int .i64 2)] [], .slice [.lit (.int .i64 2), .lit (.int .i64 1)] [], .slice [.lit (.int .i64 1)] [], .slice [.lit (.int .i64 1)] [], .slice [.lit (.int .i64 1)] [], .slice [.lit (.int .i64 1), .lit (.int .i64 1)] [], .slice [.lit (.int .i64 1)] [], .slice [.lit (.int .i64 1)] [], .slice [.lit (.int .i64 1)] [], .slice [.lit (.int .i64 1)] [], .slice [.lit (.int .i64 1), .lit (.int .i64 1)] [], .slice [.lit (.int .i64 1)] [], .slice [.lit (.int .i64 2), .lit (.int .i64 1)] [], .slice [] [], .slice [] [], .slice [] [], .slice [] [], .slice [.lit (.int .i64 1)] [], .slice [] []]

/-- 'n002_125.FnMakeInstructionReadOperandsRoundTrip': WHATEVER THE INPUT: true; the input reads as it did. -/
def fnMakeInstructionReadOperandsRoundTripSpec : ChangeSpec := { name := "fnMakeInstructionReadOperandsRoundTrip", vars := ["github.com/d5/tengo/v2/parser.OpcodeOperands"], fn := fun _ => fun
  | [d1, d2, d3, g1] => { results := [.lit (.bool true)], args := [d1, d2, d3], vars := [g1] }
  | _ => none }
def fnMakeInstructionReadOperandsRoundTripRow : OpenClaim := { program := "ytjnoodilpffbiaadoor", sum := "fbea8736d84f9170c8b4b05e0d01f910e644ee4ccd36dc81fa1d52a6b078ada1", func := "github.com/d5/tengo/v2/n002_125.FnMakeInstructionReadOperandsRoundTrip", spec := "fnMakeInstructionReadOperandsRoundTrip", named := ["github.com/d5/tengo/v2/parser.OpcodeOperands"], apart := false, laid := [("github.com/d5/tengo/v2/parser.OpcodeOperands", laid_github_com_d5_tengo_v2_parser_OpcodeOperands)] }
def FnMakeInstructionReadOperandsRoundTripSaid : Prop := fnMakeInstructionReadOperandsRoundTripRow.holds Tryd.pinned (OpenSpec.ofChange fnMakeInstructionReadOperandsRoundTripSpec)

/-- ITS FALSE NEIGHBOUR: 'it returns false'. Refute it at one input. -/
def fnMakeInstructionReadOperandsRoundTripWrong : ChangeSpec := { name := "fnMakeInstructionReadOperandsRoundTrip", vars := ["github.com/d5/tengo/v2/parser.OpcodeOperands"], fn := fun _ => fun
  | [d1, d2, d3, g1] => { results := [.lit (.bool false)], args := [d1, d2, d3], vars := [g1] }
  | _ => none }
def FnMakeInstructionReadOperandsRoundTripWrongFalsely : Prop := fnMakeInstructionReadOperandsRoundTripRow.holds Tryd.pinned (OpenSpec.ofChange fnMakeInstructionReadOperandsRoundTripWrong)

/-- 'n002_125.FnMakeInstructionExactBytes': WHATEVER THE INPUT: true; the input reads as it did. -/
def fnMakeInstructionExactBytesSpec : ChangeSpec := { name := "fnMakeInstructionExactBytes", vars := ["github.com/d5/tengo/v2/parser.OpcodeOperands"], fn := fun _ => fun
  | [d1, d2, d3, d4, g1] => { results := [.lit (.bool true)], args := [d1, d2, d3, d4], vars := [g1] }
  | _ => none }
def fnMakeInstructionExactBytesRow : OpenClaim := { program := "ytjnoodilpffbiaadoor", sum := "fbea8736d84f9170c8b4b05e0d01f910e644ee4ccd36dc81fa1d52a6b078ada1", func := "github.com/d5/tengo/v2/n002_125.FnMakeInstructionExactBytes", spec := "fnMakeInstructionExactBytes", named := ["github.com/d5/tengo/v2/parser.OpcodeOperands"], apart := false, laid := [("github.com/d5/tengo/v2/parser.OpcodeOperands", laid_github_com_d5_tengo_v2_parser_OpcodeOperands)] }
def FnMakeInstructionExactBytesSaid : Prop := fnMakeInstructionExactBytesRow.holds Tryd.pinned (OpenSpec.ofChange fnMakeInstructionExactBytesSpec)

/-- ITS FALSE NEIGHBOUR: 'it returns false'. Refute it at one input. -/
def fnMakeInstructionExactBytesWrong : ChangeSpec := { name := "fnMakeInstructionExactBytes", vars := ["github.com/d5/tengo/v2/parser.OpcodeOperands"], fn := fun _ => fun
  | [d1, d2, d3, d4, g1] => { results := [.lit (.bool false)], args := [d1, d2, d3, d4], vars := [g1] }
  | _ => none }
def FnMakeInstructionExactBytesWrongFalsely : Prop := fnMakeInstructionExactBytesRow.holds Tryd.pinned (OpenSpec.ofChange fnMakeInstructionExactBytesWrong)

/- THE SECOND FORM. 'bulk': how many values and letters a reading holds, each counted each time it is reached (what is shared counts as often as it is met; a slice's spare places count too). A statement '..UptoSaid' is the law's where the arguments, and the package variables that the reading takes, are together of bulk at most 1048576: NARROWER than '..Said'. Prove '..Said' where nothing that the law and all that it calls make is longer than what came in: it says more and counts as full. Else prove '..UptoSaid'. A law counts once. -/
mutual
def uptoBulk {H : Type} : DataW H → Nat
  | .lit (.string bytes) => bytes.length + 1
  | .lit _ => 1
  | .nil => 1
  | .ptr d => uptoBulk d + 1
  | .slice elems spare => uptoBulkAll elems + uptoBulkAll spare + 1
  | .agg parts => uptoBulkAll parts + 1
  | .iface _ d => uptoBulk d + 1
  | .map entries => uptoBulkEntries entries + 1
  | .held _ => 1
def uptoBulkAll {H : Type} : List (DataW H) → Nat
  | [] => 0
  | d :: r => uptoBulk d + uptoBulkAll r
def uptoBulkEntries {H : Type} : List (Lit × DataW H) → Nat
  | [] => 0
  | x :: r => uptoBulkEntry x + uptoBulkEntries r
def uptoBulkEntry {H : Type} : Lit × DataW H → Nat
  | (.string bytes, d) => bytes.length + uptoBulk d + 1
  | (_, d) => uptoBulk d + 1
 end
def uptoSmall : (H : Type) → List (DataW H) → Bool := fun _ ds => decide (uptoBulkAll ds ≤ 1048576)
def OpenSpec.upto (s : _root_.Go.ChangeSpec) : _root_.Go.OpenSpec := { _root_.Go.OpenSpec.ofChange s with cond := some uptoSmall }

/-- 'n002_125.FnMakeInstructionReadOperandsRoundTrip', WHERE WHAT IT READS IS OF BULK AT MOST 1048576: true; the input reads as it did. -/
def fnMakeInstructionReadOperandsRoundTripUptoRow : OpenClaim := { program := "ytjnoodilpffbiaadoor", sum := "fbea8736d84f9170c8b4b05e0d01f910e644ee4ccd36dc81fa1d52a6b078ada1", func := "github.com/d5/tengo/v2/n002_125.FnMakeInstructionReadOperandsRoundTrip", spec := "fnMakeInstructionReadOperandsRoundTrip", named := ["github.com/d5/tengo/v2/parser.OpcodeOperands"], apart := false, laid := [("github.com/d5/tengo/v2/parser.OpcodeOperands", laid_github_com_d5_tengo_v2_parser_OpcodeOperands)], narrowed := true }
def FnMakeInstructionReadOperandsRoundTripUptoSaid : Prop := fnMakeInstructionReadOperandsRoundTripUptoRow.holds Tryd.pinned (OpenSpec.upto fnMakeInstructionReadOperandsRoundTripSpec)

/-- 'n002_125.FnMakeInstructionExactBytes', WHERE WHAT IT READS IS OF BULK AT MOST 1048576: true; the input reads as it did. -/
def fnMakeInstructionExactBytesUptoRow : OpenClaim := { program := "ytjnoodilpffbiaadoor", sum := "fbea8736d84f9170c8b4b05e0d01f910e644ee4ccd36dc81fa1d52a6b078ada1", func := "github.com/d5/tengo/v2/n002_125.FnMakeInstructionExactBytes", spec := "fnMakeInstructionExactBytes", named := ["github.com/d5/tengo/v2/parser.OpcodeOperands"], apart := false, laid := [("github.com/d5/tengo/v2/parser.OpcodeOperands", laid_github_com_d5_tengo_v2_parser_OpcodeOperands)], narrowed := true }
def FnMakeInstructionExactBytesUptoSaid : Prop := fnMakeInstructionExactBytesUptoRow.holds Tryd.pinned (OpenSpec.upto fnMakeInstructionExactBytesSpec)

end Rows
end Go.Proofs.YtjnoodilpffbiaaDoor
