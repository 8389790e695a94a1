/- The law FnStringIterateYieldsRunesInOrder returns true on every input, proved from its walk (YtehfbmkaojlbeaaItL). -/
import Derived.Test.YtehfbmkaojlbeaaRows
import Derived.Test.YtehfbmkaojlbeaaFrame
import Derived.Test.YtehfbmkaojlbeaaItL
import Derived.SizedLaws
namespace Go.Proofs.Ytehfbmkaojlbeaa.fnStringIterateYieldsRunesInOrder
open Go.ChangeShapes Go.WideShapes Go.ChangeAt Go.RowKit
open Go.ChangeMaps (open_string shut_string)
set_option linter.unusedVariables false

theorem own : ownKnob Try.prog.godebug = none := by kernel_rfl
theorem laidOut : laidOutB Try.prog = true := by kernel_rfl
set_option maxRecDepth 100000 in
theorem contract (H : Type) (enc : TypeId × Value → H) (W : World) (base : Nat) (args : Array Value) (ds gs : List (DataW H)) (before : List MemPlace)
    (hval : ∀ (j : Nat) t v, Try.f3.params[j]? = some t → args[j]? = some v → Value.okWide Try.prog W .any base t v)
    (hW : DataW.Whole enc Try.prog Try.f3.params.toList Rows.fnStringIterateYieldsRunesInOrderSpec.vars false W args.toList ds gs before)
    (hsz : (DataW.weightsEach Try.prog (Try.f3.params.toList ++ (OpenSpec.ofChange Rows.fnStringIterateYieldsRunesInOrderSpec).bare.plain.varTypes Try.prog) (ds ++ gs)).all (· ≤ reachBytes) = true)
     :
    Calls Try.prog 3 args W fun e W' => ∃ v, e = .returned v ∧ Rows.fnStringIterateYieldsRunesInOrderSpec.post enc Try.prog Try.f3 false true false false W args v W' := by
  have hW' := hW
  obtain ⟨p, q, hA, hV, rfl, hfz, hnd⟩ := hW
  rw [Try.params3] at hA hval hsz
  obtain ⟨v0, vs0, d0, ds0, p0, q0, hargs, rfl, rfl, h0, r0⟩ := trodAll_cons hA
  obtain ⟨rfl, rfl, rfl⟩ := trodAll_nil r0
  obtain rfl : args = #[v0] := by cases args; simp_all
  obtain ⟨a0, rfl, rfl, rfl, _⟩ := open_string Try.underlying9 (hval 0 9 v0 rfl rfl) h0
  have w0 : a0.size ≤ 140737488351232 := by have := sized_string (j := 0) hsz rfl rfl; simpa [reachBytes] using this
  refine (walk a0 W w0).mono fun e W' ⟨he, hb⟩ => ?_
  subst he
  obtain ⟨rfl, rfl⟩ := trodVars_none hV
  exact ⟨_, rfl, LawFrame.law_post laidOut (by kernel_rfl) (by kernel_rfl) rfl Try.underlying4 hW' (rfl) hb⟩

set_option maxRecDepth 100000 in
theorem lifted (os : Os) (started : os.Started) (H : Type) (enc : TypeId × Value → H) (F : Stop.Interp) :
    ReturnsInHanded {} Try.checked os 3 .any ((OpenSpec.ofChange Rows.fnStringIterateYieldsRunesInOrderSpec).preRow enc Try.prog Try.f3 Rows.fnStringIterateYieldsRunesInOrderRow.domain false Rows.fnStringIterateYieldsRunesInOrderRow.laid) (((OpenSpec.ofChange Rows.fnStringIterateYieldsRunesInOrderSpec).at F).post enc Try.prog Try.f3 false true false false) := by
  refine returnsInHanded_of_row (C := Try.checked) (s := OpenSpec.ofChange Rows.fnStringIterateYieldsRunesInOrderSpec) own started (by kernel_rfl) Try.func3
    (witness_row_at (enc := enc) (C := Try.checked) false (World.holding Try.prog os ⟨#[], #[], []⟩) #[.string ⟨#[]⟩] rfl (by kernel_rfl) (by kernel_rfl) (by kernel_rfl)
      (LawFrame.preRow_of_run 8 (by kernel_rfl) (by kernel_rfl) (LawFrame.met_nil _ _))) ?_
  intro W base args ds gs before hval hW _ hcond hsz hL _ _
  exact contract H enc W base args ds gs before hval hW hsz

theorem said : Rows.FnStringIterateYieldsRunesInOrderSaid :=
  OpenClaim.holds_of_cond 3 Try.f3 rfl rfl rfl rfl rfl rfl rfl ⟨rfl, rfl, rfl, rfl, rfl⟩ rfl rfl rfl rfl rfl (by kernel_rfl) Try.func3 (by kernel_rfl)
    (of_decide_eq_true (by kernel_rfl)) (by unfold Func.isWrapper; first | (rw [if_pos (by decide +kernel)]; kernel_rfl) | (rw [if_neg (by decide +kernel)]; exact ⟨rfl, rfl⟩))
    (fun os started H enc _ F => by rw [OpenClaim.pre_eq_preRow]; exact lifted os started H enc F)
#print axioms said
end Go.Proofs.Ytehfbmkaojlbeaa.fnStringIterateYieldsRunesInOrder
