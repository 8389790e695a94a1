/- The law FnFormatInstructionsSplitsAtBoundary returns true on every input, proved from its walk (YtjnoodilpffbiaaFmtSplT); the listed package variables are tied to the program's text by the given tie. -/
import Derived.Test.YtjnoodilpffbiaaFmtCards
import Derived.Test.YtjnoodilpffbiaaFmtTie
import Derived.SevenTiedAt
import Derived.SevenToldRow
import Derived.Stop.JoinedTold
import Derived.Test.YtjnoodilpffbiaaFmtFrame
import Derived.Test.YtjnoodilpffbiaaFmtSplT
import Derived.SizedLaws
namespace Go.Proofs.YtjnoodilpffbiaaFmt.fnFormatInstructionsSplitsAtBoundary
open Go.ChangeShapes Go.WideShapes Go.ChangeAt Go.RowKit
open Go.ChangeMaps (open_string shut_string)
set_option linter.unusedVariables false

theorem own : ownKnob Tryf.prog.godebug = none := by kernel_rfl
theorem laidOut : laidOutB Tryf.prog = true := by kernel_rfl
set_option maxRecDepth 100000 in
theorem contract (H : Type) (enc : TypeId × Value → H) (W : World) (base : Nat) (args : Array Value) (ds gs : List (DataW H)) (before : List MemPlace)
    (hval : ∀ (j : Nat) t v, Tryf.f4.params[j]? = some t → args[j]? = some v → Value.okWide Tryf.prog W .any base t v)
    (hW : DataW.Whole enc Tryf.prog Tryf.f4.params.toList Rows.fnFormatInstructionsSplitsAtBoundarySpec.vars false W args.toList ds gs before)
    (hsz : (DataW.weightsEach Tryf.prog (Tryf.f4.params.toList ++ (OpenSpec.ofChange Rows.fnFormatInstructionsSplitsAtBoundarySpec).bare.plain.varTypes Tryf.prog) (ds ++ gs)).all (· ≤ reachBytes) = true)
    (F : Stop.Interp) (hF : F.answers W.tape) (hL : laidMetH Tryf.prog Rows.fnFormatInstructionsSplitsAtBoundaryRow.laid W) :
    Calls Tryf.prog 4 args W fun e W' => ∃ v, e = .returned v ∧ Rows.fnFormatInstructionsSplitsAtBoundarySpec.post enc Tryf.prog Tryf.f4 false true false false W args v W' := by
  have hW' := hW
  obtain ⟨p, q, hA, hV, rfl, hfz, hnd⟩ := hW
  rw [Tryf.params4] at hA hval hsz
  obtain ⟨v0, vs0, d0, ds0, p0, q0, hargs, rfl, rfl, h0, r0⟩ := trodAll_cons hA
  obtain ⟨v1, vs1, d1, ds1, p1, q1, rfl, rfl, rfl, h1, r1⟩ := trodAll_cons r0
  obtain ⟨v2, vs2, d2, ds2, p2, q2, rfl, rfl, rfl, h2, r2⟩ := trodAll_cons r1
  obtain ⟨v3, vs3, d3, ds3, p3, q3, rfl, rfl, rfl, h3, r3⟩ := trodAll_cons r2
  obtain ⟨rfl, rfl, rfl⟩ := trodAll_nil r3
  obtain rfl : args = #[v0, v1, v2, v3] := by cases args; simp_all
  obtain ⟨a0, len0, cap0, rfl⟩ := okWide_slice Tryf.underlying22 (hval 0 22 v0 rfl rfl)
  obtain ⟨z0, w0⟩ := LawFrame.isRow_of Tryf.underlying22 Tryf.underlying5 (by kernel_rfl) (by kernel_rfl) h0 hsz (show (_ : List TypeId)[0]? = some 22 from rfl) rfl
  obtain ⟨a1, len1, cap1, rfl⟩ := okWide_slice Tryf.underlying22 (hval 1 22 v1 rfl rfl)
  obtain ⟨z1, w1⟩ := LawFrame.isRow_of Tryf.underlying22 Tryf.underlying5 (by kernel_rfl) (by kernel_rfl) h1 hsz (show (_ : List TypeId)[1]? = some 22 from rfl) rfl
  obtain ⟨a2, len2, cap2, rfl⟩ := okWide_slice Tryf.underlying23 (hval 2 23 v2 rfl rfl)
  obtain ⟨z2, w2⟩ := LawFrame.isRow_of Tryf.underlying23 Tryf.underlying3 (by kernel_rfl) (by kernel_rfl) h2 hsz (show (_ : List TypeId)[2]? = some 23 from rfl) rfl
  obtain ⟨a3, rfl, rfl, rfl, w3⟩ := open_int Tryf.underlying3 (hval 3 3 v3 rfl rfl) h3
  refine (walk a0 len0 cap0 z0 a1 len1 cap1 z1 a2 len2 cap2 z2 a3 W w0 w1 w2 w3 F hF hL).mono fun e W' ⟨he, hb⟩ => ?_
  subst he
  have hlen : gs.length = 2 := LawFrame.vars_length hV
  exact ⟨_, rfl, LawFrame.law_post laidOut (by kernel_rfl) (by kernel_rfl) rfl Tryf.underlying4 hW' (by match gs, hlen with | [g0, g1], _ => rfl) hb⟩

theorem met (os : Os) : laidMetH Tryf.prog Rows.fnFormatInstructionsSplitsAtBoundaryRow.laid ((World.doorLaid Tryf.prog 4000 os).forCall (fun _ _ => 0) ⟨#[], #[.slice none 0 0, .slice none 0 0, .slice none 0 0, .int .i64 0], []⟩).memory :=
  laidMetH_of_parts3 (fuel := 8) (laidMet_of_run' 8 (by kernel_rfl) (by kernel_rfl)) (by kernel_rfl) (by kernel_rfl)

theorem wv (os : Os) : ((World.doorLaid Tryf.prog 4000 os).forCall (fun _ _ => 0) ⟨#[], #[.slice none 0 0, .slice none 0 0, .slice none 0 0, .int .i64 0], []⟩).variablesRefB Tryf.checked.prog = true := by kernel_rfl
theorem wr (os : Os) : (((World.doorLaid Tryf.prog 4000 os).forCall (fun _ _ => 0) ⟨#[], #[.slice none 0 0, .slice none 0 0, .slice none 0 0, .int .i64 0], []⟩).heap.toList.drop Tryf.checked.prog.globals.size).take ((begin Tryf.checked.prog (fun _ _ => 0) default).world.heap.size - Tryf.checked.prog.globals.size) = (begin Tryf.checked.prog (fun _ _ => 0) default).world.heap.toList.drop Tryf.checked.prog.globals.size := by kernel_rfl
theorem wo (os : Os) : Input.okWideB Tryf.checked.prog ((World.doorLaid Tryf.prog 4000 os).forCall (fun _ _ => 0) ⟨#[], #[.slice none 0 0, .slice none 0 0, .slice none 0 0, .int .i64 0], []⟩) 4 ⟨#[], #[.slice none 0 0, .slice none 0 0, .slice none 0 0, .int .i64 0], []⟩ = true := by kernel_rfl
set_option maxRecDepth 100000 in
theorem wp (os : Os) (H : Type) (enc : TypeId × Value → H) : (OpenSpec.ofChange Rows.fnFormatInstructionsSplitsAtBoundarySpec).preRow enc Tryf.checked.prog Tryf.f4 Rows.fnFormatInstructionsSplitsAtBoundaryRow.domain false Rows.fnFormatInstructionsSplitsAtBoundaryRow.laid ((World.doorLaid Tryf.prog 4000 os).forCall (fun _ _ => 0) ⟨#[], #[.slice none 0 0, .slice none 0 0, .slice none 0 0, .int .i64 0], []⟩).memory #[.slice none 0 0, .slice none 0 0, .slice none 0 0, .int .i64 0] :=
  LawFrame.preRow_of_run 8 (by kernel_rfl) (by kernel_rfl) (met os)

set_option maxRecDepth 100000 in
theorem lifted (os : Os) (started : os.Started) (H : Type) (enc : TypeId × Value → H) :
    ReturnsInTold none {} Tryf.checked os 4 .any Input.okWide ((OpenSpec.ofChange Rows.fnFormatInstructionsSplitsAtBoundarySpec).preRow enc Tryf.prog Tryf.f4 Rows.fnFormatInstructionsSplitsAtBoundaryRow.domain false Rows.fnFormatInstructionsSplitsAtBoundaryRow.laid) (fun F => ((OpenSpec.ofChange Rows.fnFormatInstructionsSplitsAtBoundarySpec).at F).post enc Tryf.prog Tryf.f4 false true false false) (aloneAtReturn Tryf.prog) nothingAlways := by
  refine returnsInTold_of_row (C := Tryf.checked) (s := OpenSpec.ofChange Rows.fnFormatInstructionsSplitsAtBoundarySpec) (by kernel_rfl) own started (by kernel_rfl) Tryf.func4
    (OpenSpec.witness_stopped_atRef (enc := enc) (C := Tryf.checked) false (World.doorLaid Tryf.prog 4000 os) #[.slice none 0 0, .slice none 0 0, .slice none 0 0, .int .i64 0] rfl (wv os) (wr os) (wo os) (wp os H enc)) ?_
  intro F W base args ds gs before _ hF hval0 hW _ _ hsz hL _
  exact contract H enc W base args ds gs before hval0 hW hsz F.told hF hL

theorem stopsL : Tryf.pinned.checked.prog.stops = ["fmt.Sprintf"] := by kernel_rfl
theorem knobsL : Tryf.pinned.checked.prog.stopKnobs = [] := by kernel_rfl
theorem quietL (os : Os) : Stop.quiet Tryf.pinned.checked.prog os := by
  intro k hk
  rw [knobsL] at hk
  cases hk

/-- THE TOLD AND TIED CARD. -/
theorem told : Rows.FnFormatInstructionsSplitsAtBoundaryToldSaid :=
  Claim7.holds_of_told_tied_any_at .later 4 Tryf.f4 "fmt.Sprintf" [] [] _ _ _ _ _ (by kernel_rfl) rfl rfl rfl laidOut (by kernel_rfl) rfl ⟨rfl, rfl, rfl, rfl, rfl, rfl, rfl⟩ rfl rfl (by kernel_rfl) (by kernel_rfl) Tryf.func4 (by kernel_rfl)
    (of_decide_eq_true (by kernel_rfl)) (of_decide_eq_true (by kernel_rfl)) stopsL.symm rfl knobsL.symm (by kernel_rfl)
    (by kernel_rfl) (by kernel_rfl) (by kernel_rfl) (by kernel_rfl) (by kernel_rfl) (by kernel_rfl) (by kernel_rfl) (by kernel_rfl) (by kernel_rfl) rfl (by kernel_rfl) rfl rfl
    rfl rfl
    rfl (by kernel_rfl) (by kernel_rfl) (by kernel_rfl) (by decide) (by kernel_rfl) fnFormatInstructionsSplitsAtBoundary_row_tie
    (OpenClaim.moreEntering_of (by kernel_rfl) (by kernel_rfl) (by kernel_rfl) (by kernel_rfl) (by kernel_rfl) (by kernel_rfl) (by kernel_rfl) (by kernel_rfl) (by kernel_rfl) (by kernel_rfl))
    ⟨_, WideRow.started_initial, quietL _⟩
    (fun os started _ H enc _ => lifted os started H enc)
#print axioms told
end Go.Proofs.YtjnoodilpffbiaaFmt.fnFormatInstructionsSplitsAtBoundary
