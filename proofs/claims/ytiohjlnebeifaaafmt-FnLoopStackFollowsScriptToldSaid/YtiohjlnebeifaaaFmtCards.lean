/-
  DERIVED. GIVEN WITH THE SEED: THE CARDS: each row of YtiohjlnebeifaaaFmtRows.lean that lists a variable, with what it lists TIED to the program's text (the seventh form; the later family's looks); each row that meets fmt, with fmt's text TOLD by the authors' own Lean function (tested against real Go, not proved from fmt's source: count such statements apart). THE CARD IS WHAT COUNTS. Prove the row's statement (the work); the ties are given (YtiohjlnebeifaaaFmtTie.lean); close each card by the builder's one call (the guide's Derived/Test/ToyasCard.lean, 'card_holds'). Laid BY PROGRAM, IN A SANDBOX (cutbox-door.mjs). By AI agents, Wed Nov 11 2026. No macro, syntax, notation, axiom, sorry.
-/
import Derived.Test.YtiohjlnebeifaaaFmtRows
import GoSem.ClaimSeven
namespace Go.Proofs.YtiohjlnebeifaaaFmt
namespace Rows

/-- THE TOLD CARD OF 'n002_129.FnLoopStackFollowsScript'. -/
def fnLoopStackFollowsScriptCard : Claim7 := { stood := { row := fnLoopStackFollowsScriptRow, standIns := [], harness := (true, "ddb6de350df205e0c8211b9eab26c880c95286881ae1a7436436e700f15096f4"), looks := false }, told := true, goes := false }
def FnLoopStackFollowsScriptToldSaid : Prop := Claim7.holds Tryf.pinned (.plain (OpenSpec.ofChange fnLoopStackFollowsScriptSpec)) fnLoopStackFollowsScriptCard
/-- ITS FALSE NEIGHBOUR. Refute it at one input. -/
def FnLoopStackFollowsScriptToldWrongFalsely : Prop := Claim7.holds Tryf.pinned (.plain (OpenSpec.ofChange fnLoopStackFollowsScriptWrong)) fnLoopStackFollowsScriptCard

/-- THE TOLD CARD OF 'n002_129.FnCurrentInstructionsFollowsScopeStack'. -/
def fnCurrentInstructionsFollowsScopeStackCard : Claim7 := { stood := { row := fnCurrentInstructionsFollowsScopeStackRow, standIns := [], harness := (true, "ddb6de350df205e0c8211b9eab26c880c95286881ae1a7436436e700f15096f4"), looks := false }, told := true, goes := false }
def FnCurrentInstructionsFollowsScopeStackToldSaid : Prop := Claim7.holds Tryf.pinned (.plain (OpenSpec.ofChange fnCurrentInstructionsFollowsScopeStackSpec)) fnCurrentInstructionsFollowsScopeStackCard
/-- ITS FALSE NEIGHBOUR. Refute it at one input. -/
def FnCurrentInstructionsFollowsScopeStackToldWrongFalsely : Prop := Claim7.holds Tryf.pinned (.plain (OpenSpec.ofChange fnCurrentInstructionsFollowsScopeStackWrong)) fnCurrentInstructionsFollowsScopeStackCard

/-- THE TOLD CARD OF 'n002_129.FnAddedChunksLieEndToEnd'. -/
def fnAddedChunksLieEndToEndCard : Claim7 := { stood := { row := fnAddedChunksLieEndToEndRow, standIns := [], harness := (true, "ddb6de350df205e0c8211b9eab26c880c95286881ae1a7436436e700f15096f4"), looks := false }, told := true, goes := false }
def FnAddedChunksLieEndToEndToldSaid : Prop := Claim7.holds Tryf.pinned (.plain (OpenSpec.ofChange fnAddedChunksLieEndToEndSpec)) fnAddedChunksLieEndToEndCard
/-- ITS FALSE NEIGHBOUR. Refute it at one input. -/
def FnAddedChunksLieEndToEndToldWrongFalsely : Prop := Claim7.holds Tryf.pinned (.plain (OpenSpec.ofChange fnAddedChunksLieEndToEndWrong)) fnAddedChunksLieEndToEndCard

/-- THE TOLD CARD OF 'n002_129.FnLoopDepthAfterEntersAndLeaves'. -/
def fnLoopDepthAfterEntersAndLeavesCard : Claim7 := { stood := { row := fnLoopDepthAfterEntersAndLeavesRow, standIns := [], harness := (true, "ddb6de350df205e0c8211b9eab26c880c95286881ae1a7436436e700f15096f4"), looks := false }, told := true, goes := false }
def FnLoopDepthAfterEntersAndLeavesToldSaid : Prop := Claim7.holds Tryf.pinned (.plain (OpenSpec.ofChange fnLoopDepthAfterEntersAndLeavesSpec)) fnLoopDepthAfterEntersAndLeavesCard
/-- ITS FALSE NEIGHBOUR. Refute it at one input. -/
def FnLoopDepthAfterEntersAndLeavesToldWrongFalsely : Prop := Claim7.holds Tryf.pinned (.plain (OpenSpec.ofChange fnLoopDepthAfterEntersAndLeavesWrong)) fnLoopDepthAfterEntersAndLeavesCard
end Rows
end Go.Proofs.YtiohjlnebeifaaaFmt
