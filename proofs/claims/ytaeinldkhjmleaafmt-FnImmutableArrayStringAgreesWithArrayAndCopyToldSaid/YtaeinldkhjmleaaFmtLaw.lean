/- The law FnImmutableArrayStringAgreesWithArrayAndCopy returns true on every input, proved from its walk (YtaeinldkhjmleaaFmtSw); the listed package variables are tied to the program's text by the given tie. -/
import Derived.Test.YtaeinldkhjmleaaFmtCards
import Derived.Test.YtaeinldkhjmleaaFmtTie
import Derived.SevenTiedAt
import Derived.SevenToldRow
import Derived.Stop.JoinedTold
import Derived.Test.YtaeinldkhjmleaaFmtFrame
import Derived.Test.YtaeinldkhjmleaaFmtSw
import Derived.Test.YtaeinldkhjmleaaFmtShp
import Derived.SizedLaws
namespace Go.Proofs.YtaeinldkhjmleaaFmt.fnImmutableArrayStringAgreesWithArrayAndCopy
open Go.ChangeShapes Go.WideShapes Go.ChangeAt Go.RowKit
open Go.ChangeMaps (open_string shut_string)
set_option linter.unusedVariables false

theorem own : ownKnob Tryf.prog.godebug = none := by kernel_rfl
theorem laidOut : laidOutB Tryf.prog = true := by kernel_rfl
set_option maxRecDepth 100000 in
theorem contract (H : Type) (enc : TypeId × Value → H) (W : World) (base : Nat) (args : Array Value) (ds gs : List (DataW H)) (before : List MemPlace)
    (hval : ∀ (j : Nat) t v, Tryf.f4.params[j]? = some t → args[j]? = some v → Value.okWide Tryf.prog W .any base t v)
    (hW : DataW.Whole enc Tryf.prog Tryf.f4.params.toList Rows.fnImmutableArrayStringAgreesWithArrayAndCopySpec.vars false W args.toList ds gs before)
    (hsz : (DataW.weightsEach Tryf.prog (Tryf.f4.params.toList ++ (OpenSpec.ofChange Rows.fnImmutableArrayStringAgreesWithArrayAndCopySpec).bare.plain.varTypes Tryf.prog) (ds ++ gs)).all (· ≤ reachBytes) = true)
    (F : Stop.Interp) (hF : F.answers W.tape) (hT : ∃ T : Nat → Int, Fi.Tab T W) :
    Calls Tryf.prog 4 args W fun e W' => ∃ v, e = .returned v ∧ Rows.fnImmutableArrayStringAgreesWithArrayAndCopySpec.post enc Tryf.prog Tryf.f4 false true false false W args v W' := by
  have hW' := hW
  obtain ⟨p, q, hA, hV, rfl, hfz, hnd⟩ := hW
  rw [Tryf.params4] at hA hval hsz
  obtain ⟨v0, vs0, d0, ds0, p0, q0, hargs, rfl, rfl, h0, r0⟩ := trodAll_cons hA
  obtain ⟨rfl, rfl, rfl⟩ := trodAll_nil r0
  obtain rfl : args = #[v0] := by cases args; simp_all
  obtain ⟨a0, len0, cap0, rfl⟩ := okWide_slice Tryf.underlying22 (hval 0 22 v0 rfl rfl)
  obtain ⟨z0, w0⟩ := LawFrame.isRow_of Tryf.underlying22 Tryf.underlying2 (by kernel_rfl) (by kernel_rfl) h0 hsz (show (_ : List TypeId)[0]? = some 22 from rfl) rfl
  refine (walk a0 len0 cap0 z0 W w0 F hF hT).mono fun e W' ⟨he, hb⟩ => ?_
  subst he
  have hlen : gs.length = 1 := LawFrame.vars_length hV
  exact ⟨_, rfl, LawFrame.law_post laidOut (by kernel_rfl) (by kernel_rfl) rfl Tryf.underlying4 hW' (by match gs, hlen with | [g0], _ => rfl) hb⟩

theorem met (os : Os) : laidMetH Tryf.prog Rows.fnImmutableArrayStringAgreesWithArrayAndCopyRow.laid ((World.doorLaid Tryf.prog 4000 os).forCall (fun _ _ => 0) ⟨#[], #[.slice none 0 0], []⟩).memory :=
  laidMetH_of_parts3 (fuel := 8) (laidMet_of_run' 8 (by kernel_rfl) (by kernel_rfl)) (by kernel_rfl) (by kernel_rfl)

theorem wv (os : Os) : ((World.doorLaid Tryf.prog 4000 os).forCall (fun _ _ => 0) ⟨#[], #[.slice none 0 0], []⟩).variablesRefB Tryf.checked.prog = true := by kernel_rfl
theorem wr (os : Os) : (((World.doorLaid Tryf.prog 4000 os).forCall (fun _ _ => 0) ⟨#[], #[.slice none 0 0], []⟩).heap.toList.drop Tryf.checked.prog.globals.size).take ((begin Tryf.checked.prog (fun _ _ => 0) default).world.heap.size - Tryf.checked.prog.globals.size) = (begin Tryf.checked.prog (fun _ _ => 0) default).world.heap.toList.drop Tryf.checked.prog.globals.size := by kernel_rfl
theorem wo (os : Os) : Input.okWideB Tryf.checked.prog ((World.doorLaid Tryf.prog 4000 os).forCall (fun _ _ => 0) ⟨#[], #[.slice none 0 0], []⟩) 4 ⟨#[], #[.slice none 0 0], []⟩ = true := by kernel_rfl
set_option maxRecDepth 100000 in
theorem wp (os : Os) (H : Type) (enc : TypeId × Value → H) : (OpenSpec.ofChange Rows.fnImmutableArrayStringAgreesWithArrayAndCopySpec).preRow enc Tryf.checked.prog Tryf.f4 Rows.fnImmutableArrayStringAgreesWithArrayAndCopyRow.domain false Rows.fnImmutableArrayStringAgreesWithArrayAndCopyRow.laid ((World.doorLaid Tryf.prog 4000 os).forCall (fun _ _ => 0) ⟨#[], #[.slice none 0 0], []⟩).memory #[.slice none 0 0] :=
  LawFrame.preRow_of_run 8 (by kernel_rfl) (by kernel_rfl) (met os)

set_option maxRecDepth 100000 in
theorem lifted (os : Os) (started : os.Started) (H : Type) (enc : TypeId × Value → H) :
    ReturnsInTold none {} Tryf.checked os 4 .any Input.okWide ((OpenSpec.ofChange Rows.fnImmutableArrayStringAgreesWithArrayAndCopySpec).preRow enc Tryf.prog Tryf.f4 Rows.fnImmutableArrayStringAgreesWithArrayAndCopyRow.domain false Rows.fnImmutableArrayStringAgreesWithArrayAndCopyRow.laid) (fun F => ((OpenSpec.ofChange Rows.fnImmutableArrayStringAgreesWithArrayAndCopySpec).at F).post enc Tryf.prog Tryf.f4 false true false false) (aloneAtReturn Tryf.prog) nothingAlways := by
  refine Shp.told_of_row (C := Tryf.checked) (s := OpenSpec.ofChange Rows.fnImmutableArrayStringAgreesWithArrayAndCopySpec) (by kernel_rfl) own started (by kernel_rfl) Tryf.func4
    (OpenSpec.witness_stopped_atRef (enc := enc) (C := Tryf.checked) false (World.doorLaid Tryf.prog 4000 os) #[.slice none 0 0] rfl (wv os) (wr os) (wo os) (wp os H enc)) ?_
  intro F W base args ds gs before hS hF hval0 hW hsz _
  exact contract H enc W base args ds gs before hval0 hW hsz F.told hF (Shp.tab hS)

theorem stopsL : Tryf.pinned.checked.prog.stops = ["fmt.Sprintf"] := by kernel_rfl
theorem knobsL : Tryf.pinned.checked.prog.stopKnobs = [] := by kernel_rfl
theorem quietL (os : Os) : Stop.quiet Tryf.pinned.checked.prog os := by
  intro k hk
  rw [knobsL] at hk
  cases hk

/-- THE TOLD AND TIED CARD. -/
theorem told : Rows.FnImmutableArrayStringAgreesWithArrayAndCopyToldSaid :=
  Claim7.holds_of_told_tied_any_at .later 4 Tryf.f4 "fmt.Sprintf" [] [] _ _ _ _ _ (by kernel_rfl) rfl rfl rfl laidOut (by kernel_rfl) rfl ⟨rfl, rfl, rfl, rfl, rfl, rfl, rfl⟩ rfl rfl (by kernel_rfl) (by kernel_rfl) Tryf.func4 (by kernel_rfl)
    (of_decide_eq_true (by kernel_rfl)) (of_decide_eq_true (by kernel_rfl)) stopsL.symm rfl knobsL.symm (by kernel_rfl)
    (by kernel_rfl) (by kernel_rfl) (by kernel_rfl) (by kernel_rfl) (by kernel_rfl) (by kernel_rfl) (by kernel_rfl) (by kernel_rfl) (by kernel_rfl) rfl (by kernel_rfl) rfl rfl
    rfl rfl
    rfl (by kernel_rfl) (by kernel_rfl) (by kernel_rfl) (by decide) (by kernel_rfl) fnImmutableArrayStringAgreesWithArrayAndCopy_row_tie
    (OpenClaim.moreEntering_of (by kernel_rfl) (by kernel_rfl) (by kernel_rfl) (by kernel_rfl) (by kernel_rfl) (by kernel_rfl) (by kernel_rfl) (by kernel_rfl) (by kernel_rfl) (by kernel_rfl))
    ⟨_, WideRow.started_initial, quietL _⟩
    (fun os started _ H enc _ => lifted os started H enc)
#print axioms told
end Go.Proofs.YtaeinldkhjmleaaFmt.fnImmutableArrayStringAgreesWithArrayAndCopy
