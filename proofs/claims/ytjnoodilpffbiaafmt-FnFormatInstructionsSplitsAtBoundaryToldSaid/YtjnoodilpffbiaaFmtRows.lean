/-
  NARROWER THAN 'FOR EVERY INPUT', by the rows' own cells (each row's printed sentence says how): FnFormatInstructionsOneLinePerInstruction: laid · FnFormatInstructionsSplitsAtBoundary: laid.
  DERIVED. THE GIVEN ROWS OF THIS SEAT. 2 by the template 'for every input the law returns true; each argument reads behind the call as it read before'; 0 by the template 'total and deterministic' (their statements: YtjnoodilpffbiaaFmtTotals.lean).
  GIVEN WITH THE SEED: the statements are not yours to turn. If you find one false, say at which input.
  Laid BY PROGRAM, IN A SANDBOX (cutbox-rows.mjs): the forced cells as the released guide's own fill.sh prints them over the translation b9933be71fa456f1… (all of the seat's roots in one cut). By AI agents, Wed Nov 11 2026. No macro, syntax, notation, axiom, sorry.
-/
import Derived.Test.YtjnoodilpffbiaaFmtChecked
import GoSem.Claim
import GoSem.ClaimJoined
import GoSem.ClaimMapViews
import Derived.JoinedTies
import Derived.KernelRfl
namespace Go.Proofs.YtjnoodilpffbiaaFmt
/- THE CELL 'sum', in the pinned program and in every row, IS THE sha256 OF THE DUMP (.gsa) THAT YtjnoodilpffbiaaFmtProg.lean LOADS. Nothing in Lean hashes anything: it is a label: what it is worth is what the hold of that sum in a sandbox is worth. -/
noncomputable def Tryf.pinned : Pinned := { name := "ytjnoodilpffbiaafmt", sum := "b9933be71fa456f1ce3bf772be7ca19e81bb840fa9e7aa2e08362bf5f9b15191", checked := Tryf.checked }
namespace Rows
def none {H : Type} : Left H := { results := [], args := [] }

/- WHAT THE LISTED PACKAGE-LEVEL VARIABLES READ AS WHEN THE CALL BEGINS. Each datum BY PROGRAM (the guide's laid-datum.mjs) off the statement by which the dump's own 'gosem.cut.vars' lays the variable. In a bare row this is a premise. The card (YtjnoodilpffbiaaFmtCards.lean) ties it to the program's text. -/
def laid_github_com_d5_tengo_v2_parser_OpcodeNames {H : Type} : DataW H := .agg [.lit (.string [67, 79, 78, 83, 84]), .lit (.string [78, 69, 71]), .lit (.string [80, 79, 80]), .lit (.string [84, 82, 85, 69]), .lit (.string [70, 65, 76, 83, 69]), .lit (.string [69, 81, 76]), .lit (.string [78, 69, 81]), .lit (.string [78, 69, 71]), .lit (.string [78, 79, 84]), .lit (.string [74, 77, 80, 70]), .lit (.string [65, 78, 68, 74, 77, 80]), .lit (.string [79, 82, 74, 77, 80]), .lit (.string [74, 77, 80]), .lit (.string [78, 85, 76, 76]), .lit (.string [65, 82, 82]), .lit (.string [77, 65, 80]), .lit (.string [69, 82, 82, 79, 82]), .lit (.string [73, 77, 77, 85, 84]), .lit (.string [73, 78, 68, 69, 88]), .lit (.string [83, 76, 73, 67, 69]), .lit (.string [67, 65, 76, 76]), .lit (.string [82, 69, 84]), .lit (.string [71, 69, 84, 71]), .lit (.string [83, 69, 84, 71]), .lit (.string [83, 69, 84, 83, 71]), .lit (.string [71, 69, 84, 76]), .lit (.string [83, 69, 84, 76]), .lit (.string [68, 69, 70, 76]), .lit (.string [83, 69, 84, 83, 76]), .lit (.string [71, 69, 84, 70, 80]), .lit (.string [71, 69, 84, 70]), .lit (.string [83, 69, 84, 70]), .lit (.string [71, 69, 84, 76, 80]), .lit (.string [83, 69, 84, 83, 70]), .lit (.string [66, 85, 73, 76, 84, 73, 78]), .lit (.string [67, 76, 79, 83, 85, 82, 69]), .lit (.string [73, 84, 69, 82]), .lit (.string [73, 84, 78, 88, 84]), .lit (.string [73, 84, 75, 69, 89]), .lit (.string [73, 84, 86, 65, 76]), .lit (.string [66, 73, 78, 65, 82, 89, 79, 80]), .lit (.string [83, 85, 83, 80, 69, 78, 68])]
def laid_github_com_d5_tengo_v2_parser_OpcodeOperands {H : Type} : DataW H := .agg [.slice [.lit (.int .i64 2)] [], .slice [] [], .slice [] [], .slice [] [], .slice [] [], .slice [] [], .slice [] [], .slice [] [], .slice [] [], .slice [.lit (.int .i64 4)] [], .slice [.lit (.int .i64 4)] [], .slice [.lit (.int .i64 4)] [], .slice [.lit (.int .i64 4)] [], .slice [] [], .slice [.lit (.int .i64 2)] [], .slice [.lit (.int .i64 2)] [], .slice [] [], .slice [] [], .slice [] [], .slice [] [], .slice [.lit (.int .i64 1), .lit (.int .i64 1)] [], .slice [.lit (.int .i64 1)] [], .slice [.lit (.int .i64 2)] [], .slice [.lit (.int .i64 2)] [], .slice [.lit (.int .i64 2), .lit (.int .i64 1)] [], .slice [.lit (.int .i64 1)] [], .slice [.lit (.int .i64 1)] [], .slice [.lit (.int .i64 1)] [], .slice [.lit (.int .i64 1), .lit (.int .i64 1)] [], .slice [.lit (.int .i64 1)] [], .slice [.lit (.int .i64 1)] [], .slice [.lit (.int .i64 1)] [], .slice [.lit (.int .i64 1)] [], .slice [.lit (.int .i64 1), .lit (.int .i64 1)] [], .slice [.lit (.int .i64 1)] [], .slice [.lit (.int .i64 2), .lit (.int .i64 1)] [], .slice [] [], .slice [] [], .slice [] [], .slice [] [], .slice [.lit (.int .i64 1)] [], .slice [] []]

/-- 'n002_125.FnFormatInstructionsOneLinePerInstruction': WHATEVER THE INPUT: true; the input reads as it did. -/
def fnFormatInstructionsOneLinePerInstructionSpec : ChangeSpec := { name := "fnFormatInstructionsOneLinePerInstruction", vars := ["github.com/d5/tengo/v2/parser.OpcodeOperands", "github.com/d5/tengo/v2/parser.OpcodeNames"], fn := fun _ => fun
  | [d1, d2, d3, g1, g2] => { results := [.lit (.bool true)], args := [d1, d2, d3], vars := [g1, g2] }
  | _ => none }
def fnFormatInstructionsOneLinePerInstructionRow : OpenClaim := { program := "ytjnoodilpffbiaafmt", sum := "b9933be71fa456f1ce3bf772be7ca19e81bb840fa9e7aa2e08362bf5f9b15191", func := "github.com/d5/tengo/v2/n002_125.FnFormatInstructionsOneLinePerInstruction", spec := "fnFormatInstructionsOneLinePerInstruction", stops := ["fmt.Sprintf"], inPlace := ["fmt.Sprintf"], named := ["github.com/d5/tengo/v2/parser.OpcodeOperands", "github.com/d5/tengo/v2/parser.OpcodeNames"], apart := false, laid := [("github.com/d5/tengo/v2/parser.OpcodeNames", laid_github_com_d5_tengo_v2_parser_OpcodeNames), ("github.com/d5/tengo/v2/parser.OpcodeOperands", laid_github_com_d5_tengo_v2_parser_OpcodeOperands)] }
/-- NO THEOREM (fmt's text is open here; it may be false): for the released tool's asking of the row's closed facts alone. THE STATEMENT IS 'FnFormatInstructionsOneLinePerInstructionToldSaid' (YtjnoodilpffbiaaFmtCards.lean). -/
def FnFormatInstructionsOneLinePerInstructionFormAsk : Prop := fnFormatInstructionsOneLinePerInstructionRow.holds Tryf.pinned (OpenSpec.ofChange fnFormatInstructionsOneLinePerInstructionSpec)

/-- ITS FALSE NEIGHBOUR: 'it returns false'. Refute it at one input. -/
def fnFormatInstructionsOneLinePerInstructionWrong : ChangeSpec := { name := "fnFormatInstructionsOneLinePerInstruction", vars := ["github.com/d5/tengo/v2/parser.OpcodeOperands", "github.com/d5/tengo/v2/parser.OpcodeNames"], fn := fun _ => fun
  | [d1, d2, d3, g1, g2] => { results := [.lit (.bool false)], args := [d1, d2, d3], vars := [g1, g2] }
  | _ => none }
def FnFormatInstructionsOneLinePerInstructionWrongFormAsk : Prop := fnFormatInstructionsOneLinePerInstructionRow.holds Tryf.pinned (OpenSpec.ofChange fnFormatInstructionsOneLinePerInstructionWrong)

/-- 'n002_125.FnFormatInstructionsSplitsAtBoundary': WHATEVER THE INPUT: true; the input reads as it did. -/
def fnFormatInstructionsSplitsAtBoundarySpec : ChangeSpec := { name := "fnFormatInstructionsSplitsAtBoundary", vars := ["github.com/d5/tengo/v2/parser.OpcodeOperands", "github.com/d5/tengo/v2/parser.OpcodeNames"], fn := fun _ => fun
  | [d1, d2, d3, d4, g1, g2] => { results := [.lit (.bool true)], args := [d1, d2, d3, d4], vars := [g1, g2] }
  | _ => none }
def fnFormatInstructionsSplitsAtBoundaryRow : OpenClaim := { program := "ytjnoodilpffbiaafmt", sum := "b9933be71fa456f1ce3bf772be7ca19e81bb840fa9e7aa2e08362bf5f9b15191", func := "github.com/d5/tengo/v2/n002_125.FnFormatInstructionsSplitsAtBoundary", spec := "fnFormatInstructionsSplitsAtBoundary", stops := ["fmt.Sprintf"], inPlace := ["fmt.Sprintf"], named := ["github.com/d5/tengo/v2/parser.OpcodeOperands", "github.com/d5/tengo/v2/parser.OpcodeNames"], apart := false, laid := [("github.com/d5/tengo/v2/parser.OpcodeNames", laid_github_com_d5_tengo_v2_parser_OpcodeNames), ("github.com/d5/tengo/v2/parser.OpcodeOperands", laid_github_com_d5_tengo_v2_parser_OpcodeOperands)] }
/-- NO THEOREM (fmt's text is open here; it may be false): for the released tool's asking of the row's closed facts alone. THE STATEMENT IS 'FnFormatInstructionsSplitsAtBoundaryToldSaid' (YtjnoodilpffbiaaFmtCards.lean). -/
def FnFormatInstructionsSplitsAtBoundaryFormAsk : Prop := fnFormatInstructionsSplitsAtBoundaryRow.holds Tryf.pinned (OpenSpec.ofChange fnFormatInstructionsSplitsAtBoundarySpec)

/-- ITS FALSE NEIGHBOUR: 'it returns false'. Refute it at one input. -/
def fnFormatInstructionsSplitsAtBoundaryWrong : ChangeSpec := { name := "fnFormatInstructionsSplitsAtBoundary", vars := ["github.com/d5/tengo/v2/parser.OpcodeOperands", "github.com/d5/tengo/v2/parser.OpcodeNames"], fn := fun _ => fun
  | [d1, d2, d3, d4, g1, g2] => { results := [.lit (.bool false)], args := [d1, d2, d3, d4], vars := [g1, g2] }
  | _ => none }
def FnFormatInstructionsSplitsAtBoundaryWrongFormAsk : Prop := fnFormatInstructionsSplitsAtBoundaryRow.holds Tryf.pinned (OpenSpec.ofChange fnFormatInstructionsSplitsAtBoundaryWrong)

end Rows
end Go.Proofs.YtjnoodilpffbiaaFmt
