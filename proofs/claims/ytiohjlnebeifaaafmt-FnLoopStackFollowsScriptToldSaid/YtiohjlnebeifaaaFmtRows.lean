/-
  No cell of these rows narrows 'for every input' (looked for: loops, veiled, ifaces, maps, wideKeys, modest, calm, conditions, laid).
  DERIVED. THE GIVEN ROWS OF THIS SEAT. 4 by the template 'for every input the law returns true; each argument reads behind the call as it read before'; 0 by the template 'total and deterministic' (their statements: YtiohjlnebeifaaaFmtTotals.lean).
  GIVEN WITH THE SEED: the statements are not yours to turn. If you find one false, say at which input.
  Laid BY PROGRAM, IN A SANDBOX (cutbox-rows.mjs): the forced cells as the released guide's own fill.sh prints them over the translation 8d38bce6d6072def… (all of the seat's roots in one cut). By AI agents, Wed Nov 11 2026. No macro, syntax, notation, axiom, sorry.
-/
import Derived.Test.YtiohjlnebeifaaaFmtChecked
import GoSem.Claim
import GoSem.ClaimJoined
import GoSem.ClaimMapViews
import Derived.JoinedTies
import Derived.KernelRfl
namespace Go.Proofs.YtiohjlnebeifaaaFmt
/- THE CELL 'sum', in the pinned program and in every row, IS THE sha256 OF THE DUMP (.gsa) THAT YtiohjlnebeifaaaFmtProg.lean LOADS. Nothing in Lean hashes anything: it is a label: what it is worth is what the hold of that sum in a sandbox is worth. -/
noncomputable def Tryf.pinned : Pinned := { name := "ytiohjlnebeifaaafmt", sum := "8d38bce6d6072defe8319be91edd23505f831c322469dce626bc44769cf96b2d", checked := Tryf.checked }
namespace Rows
def none {H : Type} : Left H := { results := [], args := [] }

/-- 'n002_129.FnLoopStackFollowsScript': WHATEVER THE INPUT: true; the input reads as it did. -/
def fnLoopStackFollowsScriptSpec : ChangeSpec := { name := "fnLoopStackFollowsScript", fn := fun _ => fun
  | [d] => { results := [.lit (.bool true)], args := [d] }
  | _ => none }
def fnLoopStackFollowsScriptRow : OpenClaim := { program := "ytiohjlnebeifaaafmt", sum := "8d38bce6d6072defe8319be91edd23505f831c322469dce626bc44769cf96b2d", func := "github.com/d5/tengo/v2/n002_129.FnLoopStackFollowsScript", spec := "fnLoopStackFollowsScript", stops := ["fmt.Sprint", "fmt.Sprintln, its operands' methods called"], inPlace := ["fmt.Fprint", "fmt.Sprint", "fmt.Fprintln", "fmt.Sprintln"], unfollowed := true, recurses := true, apart := false }
/-- NO THEOREM (fmt's text is open here; it may be false): for the released tool's asking of the row's closed facts alone. THE STATEMENT IS 'FnLoopStackFollowsScriptToldSaid' (YtiohjlnebeifaaaFmtCards.lean). -/
def FnLoopStackFollowsScriptFormAsk : Prop := fnLoopStackFollowsScriptRow.holds Tryf.pinned (OpenSpec.ofChange fnLoopStackFollowsScriptSpec)

/-- ITS FALSE NEIGHBOUR: 'it returns false'. Refute it at one input. -/
def fnLoopStackFollowsScriptWrong : ChangeSpec := { name := "fnLoopStackFollowsScript", fn := fun _ => fun
  | [d] => { results := [.lit (.bool false)], args := [d] }
  | _ => none }
def FnLoopStackFollowsScriptWrongFormAsk : Prop := fnLoopStackFollowsScriptRow.holds Tryf.pinned (OpenSpec.ofChange fnLoopStackFollowsScriptWrong)

/-- 'n002_129.FnCurrentInstructionsFollowsScopeStack': WHATEVER THE INPUT: true; the input reads as it did. -/
def fnCurrentInstructionsFollowsScopeStackSpec : ChangeSpec := { name := "fnCurrentInstructionsFollowsScopeStack", fn := fun _ => fun
  | [d] => { results := [.lit (.bool true)], args := [d] }
  | _ => none }
def fnCurrentInstructionsFollowsScopeStackRow : OpenClaim := { program := "ytiohjlnebeifaaafmt", sum := "8d38bce6d6072defe8319be91edd23505f831c322469dce626bc44769cf96b2d", func := "github.com/d5/tengo/v2/n002_129.FnCurrentInstructionsFollowsScopeStack", spec := "fnCurrentInstructionsFollowsScopeStack", stops := ["fmt.Sprint", "fmt.Sprintln, its operands' methods called"], inPlace := ["fmt.Fprint", "fmt.Sprint", "fmt.Fprintln", "fmt.Sprintln"], unfollowed := true, recurses := true, apart := false }
/-- NO THEOREM (fmt's text is open here; it may be false): for the released tool's asking of the row's closed facts alone. THE STATEMENT IS 'FnCurrentInstructionsFollowsScopeStackToldSaid' (YtiohjlnebeifaaaFmtCards.lean). -/
def FnCurrentInstructionsFollowsScopeStackFormAsk : Prop := fnCurrentInstructionsFollowsScopeStackRow.holds Tryf.pinned (OpenSpec.ofChange fnCurrentInstructionsFollowsScopeStackSpec)

/-- ITS FALSE NEIGHBOUR: 'it returns false'. Refute it at one input. -/
def fnCurrentInstructionsFollowsScopeStackWrong : ChangeSpec := { name := "fnCurrentInstructionsFollowsScopeStack", fn := fun _ => fun
  | [d] => { results := [.lit (.bool false)], args := [d] }
  | _ => none }
def FnCurrentInstructionsFollowsScopeStackWrongFormAsk : Prop := fnCurrentInstructionsFollowsScopeStackRow.holds Tryf.pinned (OpenSpec.ofChange fnCurrentInstructionsFollowsScopeStackWrong)

/-- 'n002_129.FnAddedChunksLieEndToEnd': WHATEVER THE INPUT: true; the input reads as it did. -/
def fnAddedChunksLieEndToEndSpec : ChangeSpec := { name := "fnAddedChunksLieEndToEnd", fn := fun _ => fun
  | [d1, d2] => { results := [.lit (.bool true)], args := [d1, d2] }
  | _ => none }
def fnAddedChunksLieEndToEndRow : OpenClaim := { program := "ytiohjlnebeifaaafmt", sum := "8d38bce6d6072defe8319be91edd23505f831c322469dce626bc44769cf96b2d", func := "github.com/d5/tengo/v2/n002_129.FnAddedChunksLieEndToEnd", spec := "fnAddedChunksLieEndToEnd", stops := ["fmt.Sprint", "fmt.Sprintln, its operands' methods called"], inPlace := ["fmt.Fprint", "fmt.Sprint", "fmt.Fprintln", "fmt.Sprintln"], unfollowed := true, recurses := true, apart := false }
/-- NO THEOREM (fmt's text is open here; it may be false): for the released tool's asking of the row's closed facts alone. THE STATEMENT IS 'FnAddedChunksLieEndToEndToldSaid' (YtiohjlnebeifaaaFmtCards.lean). -/
def FnAddedChunksLieEndToEndFormAsk : Prop := fnAddedChunksLieEndToEndRow.holds Tryf.pinned (OpenSpec.ofChange fnAddedChunksLieEndToEndSpec)

/-- ITS FALSE NEIGHBOUR: 'it returns false'. Refute it at one input. -/
def fnAddedChunksLieEndToEndWrong : ChangeSpec := { name := "fnAddedChunksLieEndToEnd", fn := fun _ => fun
  | [d1, d2] => { results := [.lit (.bool false)], args := [d1, d2] }
  | _ => none }
def FnAddedChunksLieEndToEndWrongFormAsk : Prop := fnAddedChunksLieEndToEndRow.holds Tryf.pinned (OpenSpec.ofChange fnAddedChunksLieEndToEndWrong)

/-- 'n002_129.FnLoopDepthAfterEntersAndLeaves': WHATEVER THE INPUT: true; the input reads as it did. -/
def fnLoopDepthAfterEntersAndLeavesSpec : ChangeSpec := { name := "fnLoopDepthAfterEntersAndLeaves", fn := fun _ => fun
  | [d1, d2] => { results := [.lit (.bool true)], args := [d1, d2] }
  | _ => none }
def fnLoopDepthAfterEntersAndLeavesRow : OpenClaim := { program := "ytiohjlnebeifaaafmt", sum := "8d38bce6d6072defe8319be91edd23505f831c322469dce626bc44769cf96b2d", func := "github.com/d5/tengo/v2/n002_129.FnLoopDepthAfterEntersAndLeaves", spec := "fnLoopDepthAfterEntersAndLeaves", stops := ["fmt.Sprint", "fmt.Sprintln, its operands' methods called"], inPlace := ["fmt.Fprint", "fmt.Sprint", "fmt.Fprintln", "fmt.Sprintln"], unfollowed := true, recurses := true, apart := false }
/-- NO THEOREM (fmt's text is open here; it may be false): for the released tool's asking of the row's closed facts alone. THE STATEMENT IS 'FnLoopDepthAfterEntersAndLeavesToldSaid' (YtiohjlnebeifaaaFmtCards.lean). -/
def FnLoopDepthAfterEntersAndLeavesFormAsk : Prop := fnLoopDepthAfterEntersAndLeavesRow.holds Tryf.pinned (OpenSpec.ofChange fnLoopDepthAfterEntersAndLeavesSpec)

/-- ITS FALSE NEIGHBOUR: 'it returns false'. Refute it at one input. -/
def fnLoopDepthAfterEntersAndLeavesWrong : ChangeSpec := { name := "fnLoopDepthAfterEntersAndLeaves", fn := fun _ => fun
  | [d1, d2] => { results := [.lit (.bool false)], args := [d1, d2] }
  | _ => none }
def FnLoopDepthAfterEntersAndLeavesWrongFormAsk : Prop := fnLoopDepthAfterEntersAndLeavesRow.holds Tryf.pinned (OpenSpec.ofChange fnLoopDepthAfterEntersAndLeavesWrong)

end Rows
end Go.Proofs.YtiohjlnebeifaaaFmt
