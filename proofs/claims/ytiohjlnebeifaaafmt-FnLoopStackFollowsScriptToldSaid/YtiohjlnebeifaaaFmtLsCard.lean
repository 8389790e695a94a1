/- The law FnLoopStackFollowsScript returns true on every input, proved from its walk (YtiohjlnebeifaaaFmtLsTop). -/
import Derived.Test.YtiohjlnebeifaaaFmtCards
import Derived.SevenToldRow
import Derived.Stop.JoinedTold
import Derived.Test.YtiohjlnebeifaaaFmtFrame
import Derived.Test.YtiohjlnebeifaaaFmtLsTop
import Derived.SizedLaws
namespace Go.Proofs.YtiohjlnebeifaaaFmt.fnLoopStackFollowsScript
open Go.ChangeShapes Go.WideShapes Go.ChangeAt Go.RowKit
open Go.ChangeMaps (open_string shut_string)
set_option linter.unusedVariables false

theorem own : ownKnob Tryf.prog.godebug = none := by kernel_rfl
theorem laidOut : laidOutB Tryf.prog = true := by kernel_rfl
set_option maxRecDepth 100000 in
theorem contract (H : Type) (enc : TypeId × Value → H) (W : World) (base : Nat) (args : Array Value) (ds gs : List (DataW H)) (before : List MemPlace)
    (hval : ∀ (j : Nat) t v, Tryf.f3.params[j]? = some t → args[j]? = some v → Value.okWide Tryf.prog W .any base t v)
    (hW : DataW.Whole enc Tryf.prog Tryf.f3.params.toList Rows.fnLoopStackFollowsScriptSpec.vars false W args.toList ds gs before)
    (hsz : (DataW.weightsEach Tryf.prog (Tryf.f3.params.toList ++ (OpenSpec.ofChange Rows.fnLoopStackFollowsScriptSpec).bare.plain.varTypes Tryf.prog) (ds ++ gs)).all (· ≤ reachBytes) = true)
     :
    Calls Tryf.prog 3 args W fun e W' => ∃ v, e = .returned v ∧ Rows.fnLoopStackFollowsScriptSpec.post enc Tryf.prog Tryf.f3 false true false false W args v W' := by
  have hW' := hW
  obtain ⟨p, q, hA, hV, rfl, hfz, hnd⟩ := hW
  rw [Tryf.params3] at hA hval hsz
  obtain ⟨v0, vs0, d0, ds0, p0, q0, hargs, rfl, rfl, h0, r0⟩ := trodAll_cons hA
  obtain ⟨rfl, rfl, rfl⟩ := trodAll_nil r0
  obtain rfl : args = #[v0] := by cases args; simp_all
  obtain ⟨a0, len0, cap0, rfl⟩ := okWide_slice Tryf.underlying22 (hval 0 22 v0 rfl rfl)
  obtain ⟨z0, w0⟩ := LawFrame.isRow_of Tryf.underlying22 Tryf.underlying5 (by kernel_rfl) (by kernel_rfl) h0 hsz (show (_ : List TypeId)[0]? = some 22 from rfl) rfl
  refine (walk a0 len0 cap0 z0 W w0).mono fun e W' ⟨he, hb⟩ => ?_
  subst he
  obtain ⟨rfl, rfl⟩ := trodVars_none hV
  exact ⟨_, rfl, LawFrame.law_post laidOut (by kernel_rfl) (by kernel_rfl) rfl Tryf.underlying4 hW' (rfl) hb⟩

set_option maxRecDepth 100000 in
theorem lifted (os : Os) (started : os.Started) (H : Type) (enc : TypeId × Value → H) :
    ReturnsInTold none {} Tryf.checked os 3 .any Input.okWide ((OpenSpec.ofChange Rows.fnLoopStackFollowsScriptSpec).preRow enc Tryf.prog Tryf.f3 [] false []) (fun F => ((OpenSpec.ofChange Rows.fnLoopStackFollowsScriptSpec).at F).post enc Tryf.prog Tryf.f3 false true false false) (aloneAtReturn Tryf.prog) nothingAlways := by
  refine returnsInTold_of_row (C := Tryf.checked) (s := OpenSpec.ofChange Rows.fnLoopStackFollowsScriptSpec) (by kernel_rfl) own started (by kernel_rfl) Tryf.func3
    (OpenSpec.witness_stopped (enc := enc) (C := Tryf.checked) false ⟨#[], #[.slice none 0 0], []⟩ 8 (by kernel_rfl) (by kernel_rfl) (by kernel_rfl) (by kernel_rfl)) ?_
  intro F W base args ds gs before _ _ hval0 hW _ _ hsz _ _
  exact contract H enc W base args ds gs before hval0 hW hsz

theorem stopsL : Tryf.pinned.checked.prog.stops = ["fmt.Sprint", "fmt.Sprintln, its operands' methods called"] := by kernel_rfl
theorem knobsL : Tryf.pinned.checked.prog.stopKnobs = [] := by kernel_rfl
theorem quietL (os : Os) : Stop.quiet Tryf.pinned.checked.prog os := by
  intro k hk
  rw [knobsL] at hk
  cases hk

/-- THE TOLD CARD (no road of this law comes to a text of fmt's). -/
theorem told : Rows.FnLoopStackFollowsScriptToldSaid :=
  Claim7.holds_of_told_any 3 Tryf.f3 "fmt.Sprint" ["fmt.Sprintln, its operands' methods called"] [] _ _ _ (by kernel_rfl) rfl rfl rfl laidOut (by kernel_rfl) rfl ⟨rfl, rfl, rfl, rfl, rfl, rfl, rfl⟩ rfl rfl (by kernel_rfl) (by kernel_rfl) Tryf.func3 (by kernel_rfl)
    (of_decide_eq_true (by kernel_rfl)) (of_decide_eq_true (by kernel_rfl)) stopsL.symm rfl knobsL.symm (by kernel_rfl)
    (by kernel_rfl) (by kernel_rfl) (by kernel_rfl) (by kernel_rfl) (by kernel_rfl) (by kernel_rfl) (by kernel_rfl) (by kernel_rfl) (by kernel_rfl) rfl (by kernel_rfl) rfl rfl
    rfl rfl
    rfl (by kernel_rfl) (by kernel_rfl) (by kernel_rfl) (by decide) (by kernel_rfl)
    (OpenClaim.moreEntering_of (by kernel_rfl) (by kernel_rfl) (by kernel_rfl) (by kernel_rfl) (by kernel_rfl) (by kernel_rfl) (by kernel_rfl) (by kernel_rfl) (by kernel_rfl) (by kernel_rfl))
    ⟨_, WideRow.started_initial, quietL _⟩
    (fun os started _ H enc _ => lifted os started H enc)
#print axioms told
end Go.Proofs.YtiohjlnebeifaaaFmt.fnLoopStackFollowsScript
