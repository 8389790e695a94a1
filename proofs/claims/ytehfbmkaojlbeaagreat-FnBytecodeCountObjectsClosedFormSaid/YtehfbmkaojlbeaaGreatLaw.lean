/- The law FnBytecodeCountObjectsClosedForm returns true on every input, proved from its walk (YtehfbmkaojlbeaaGreatCl). -/
import Derived.Test.YtehfbmkaojlbeaaGreatRows
import Derived.Test.YtehfbmkaojlbeaaGreatFrame
import Derived.Test.YtehfbmkaojlbeaaGreatCl
import Derived.SizedLaws
namespace Go.Proofs.YtehfbmkaojlbeaaGreat.fnBytecodeCountObjectsClosedForm
open Go.ChangeShapes Go.WideShapes Go.ChangeAt Go.RowKit
open Go.ChangeMaps (open_string shut_string)
set_option linter.unusedVariables false

theorem own : ownKnob Tryz.prog.godebug = none := by kernel_rfl
theorem laidOut : laidOutB Tryz.prog = true := by kernel_rfl
set_option maxRecDepth 100000 in
theorem contract (H : Type) (enc : TypeId × Value → H) (W : World) (base : Nat) (args : Array Value) (ds gs : List (DataW H)) (before : List MemPlace)
    (hval : ∀ (j : Nat) t v, Tryz.f3.params[j]? = some t → args[j]? = some v → Value.okWide Tryz.prog W .any base t v)
    (hW : DataW.Whole enc Tryz.prog Tryz.f3.params.toList Rows.fnBytecodeCountObjectsClosedFormSpec.vars false W args.toList ds gs before)
    (hsz : (DataW.weightsEach Tryz.prog (Tryz.f3.params.toList ++ (OpenSpec.ofChange Rows.fnBytecodeCountObjectsClosedFormSpec).bare.plain.varTypes Tryz.prog) (ds ++ gs)).all (· ≤ reachBytes) = true)
     :
    Calls Tryz.prog 3 args W fun e W' => ∃ v, e = .returned v ∧ Rows.fnBytecodeCountObjectsClosedFormSpec.post enc Tryz.prog Tryz.f3 false true false false W args v W' := by
  have hW' := hW
  obtain ⟨p, q, hA, hV, rfl, hfz, hnd⟩ := hW
  rw [Tryz.params3] at hA hval hsz
  obtain ⟨v0, vs0, d0, ds0, p0, q0, hargs, rfl, rfl, h0, r0⟩ := trodAll_cons hA
  obtain ⟨v1, vs1, d1, ds1, p1, q1, rfl, rfl, rfl, h1, r1⟩ := trodAll_cons r0
  obtain ⟨rfl, rfl, rfl⟩ := trodAll_nil r1
  obtain rfl : args = #[v0, v1] := by cases args; simp_all
  obtain ⟨a0, len0, cap0, rfl⟩ := okWide_slice Tryz.underlying22 (hval 0 22 v0 rfl rfl)
  obtain ⟨z0, w0⟩ := LawFrame.isRow_of Tryz.underlying22 Tryz.underlying5 (by kernel_rfl) (by kernel_rfl) h0 hsz (show (_ : List TypeId)[0]? = some 22 from rfl) rfl
  obtain ⟨a1, len1, cap1, rfl⟩ := okWide_slice Tryz.underlying23 (hval 1 23 v1 rfl rfl)
  obtain ⟨z1, w1⟩ := LawFrame.isRow_of Tryz.underlying23 Tryz.underlying25 (by kernel_rfl) (by kernel_rfl) h1 hsz (show (_ : List TypeId)[1]? = some 23 from rfl) rfl
  refine (walk a0 len0 cap0 z0 a1 len1 cap1 z1 W w0 w1).mono fun e W' ⟨he, hb⟩ => ?_
  subst he
  obtain ⟨rfl, rfl⟩ := trodVars_none hV
  exact ⟨_, rfl, LawFrame.law_post laidOut (by kernel_rfl) (by kernel_rfl) rfl Tryz.underlying4 hW' (rfl) hb⟩

set_option maxRecDepth 100000 in
theorem lifted (os : Os) (started : os.Started) (H : Type) (enc : TypeId × Value → H) (F : Stop.Interp) :
    ReturnsInHanded {} Tryz.checked os 3 .any ((OpenSpec.ofChange Rows.fnBytecodeCountObjectsClosedFormSpec).preRow enc Tryz.prog Tryz.f3 Rows.fnBytecodeCountObjectsClosedFormRow.domain false Rows.fnBytecodeCountObjectsClosedFormRow.laid) (((OpenSpec.ofChange Rows.fnBytecodeCountObjectsClosedFormSpec).at F).post enc Tryz.prog Tryz.f3 false true false false) := by
  refine returnsInHanded_of_row (C := Tryz.checked) (s := OpenSpec.ofChange Rows.fnBytecodeCountObjectsClosedFormSpec) own started (by kernel_rfl) Tryz.func3
    (witness_row_at (enc := enc) (C := Tryz.checked) false (World.holding Tryz.prog os ⟨#[], #[], []⟩) #[.slice none 0 0, .slice none 0 0] rfl (by kernel_rfl) (by kernel_rfl) (by kernel_rfl)
      (LawFrame.preRow_of_run 8 (by kernel_rfl) (by kernel_rfl) (LawFrame.met_nil _ _))) ?_
  intro W base args ds gs before hval hW _ hcond hsz hL _ _
  exact contract H enc W base args ds gs before hval hW hsz

theorem said : Rows.FnBytecodeCountObjectsClosedFormSaid :=
  OpenClaim.holds_of_cond 3 Tryz.f3 rfl rfl rfl rfl rfl rfl rfl ⟨rfl, rfl, rfl, rfl, rfl⟩ rfl rfl rfl rfl rfl (by kernel_rfl) Tryz.func3 (by kernel_rfl)
    (of_decide_eq_true (by kernel_rfl)) (by unfold Func.isWrapper; first | (rw [if_pos (by decide +kernel)]; kernel_rfl) | (rw [if_neg (by decide +kernel)]; exact ⟨rfl, rfl⟩))
    (fun os started H enc _ F => by rw [OpenClaim.pre_eq_preRow]; exact lifted os started H enc F)
#print axioms said
end Go.Proofs.YtehfbmkaojlbeaaGreat.fnBytecodeCountObjectsClosedForm
