/- The law FnFmtQPlusIsPrintableASCII returns true on every input, proved from its walk (YtlekmfkcbgkfgaaDoorQl); the listed package variables are tied to the program's text by the given tie. -/
import Derived.Test.YtlekmfkcbgkfgaaDoorCards
import Derived.Test.YtlekmfkcbgkfgaaDoorTie
import Derived.Test.YtlekmfkcbgkfgaaDoorFrame
import Derived.Test.YtlekmfkcbgkfgaaDoorQl
import Derived.Test.YtlekmfkcbgkfgaaDoorZip
import Derived.SizedLaws
namespace Go.Proofs.YtlekmfkcbgkfgaaDoor.fnFmtQPlusIsPrintableASCII
open Go.ChangeShapes Go.WideShapes Go.ChangeAt Go.RowKit
open Go.ChangeMaps (open_string shut_string)
set_option linter.unusedVariables false

theorem own : ownKnob Tryd.prog.godebug = none := by kernel_rfl
theorem laidOut : laidOutB Tryd.prog = true := by kernel_rfl
set_option maxRecDepth 100000 in
theorem contract (H : Type) (enc : TypeId × Value → H) (W : World) (base : Nat) (args : Array Value) (ds gs : List (DataW H)) (before : List MemPlace)
    (hval : ∀ (j : Nat) t v, Tryd.f3.params[j]? = some t → args[j]? = some v → Value.okWide Tryd.prog W .any base t v)
    (hW : DataW.Whole enc Tryd.prog Tryd.f3.params.toList Rows.fnFmtQPlusIsPrintableASCIISpec.vars false W args.toList ds gs before)
    (hsz : (DataW.weightsEach Tryd.prog (Tryd.f3.params.toList ++ (OpenSpec.ofChange Rows.fnFmtQPlusIsPrintableASCIISpec).bare.plain.varTypes Tryd.prog) (ds ++ gs)).all (· ≤ reachBytes) = true)
    (hL : laidMetH Tryd.prog Rows.fnFmtQPlusIsPrintableASCIIRow.laid W) :
    Calls Tryd.prog 3 args W fun e W' => ∃ v, e = .returned v ∧ Rows.fnFmtQPlusIsPrintableASCIISpec.post enc Tryd.prog Tryd.f3 false true false false W args v W' := by
  have hW' := hW
  obtain ⟨p, q, hA, hV, rfl, hfz, hnd⟩ := hW
  rw [Tryd.params3] at hA hval hsz
  obtain ⟨v0, vs0, d0, ds0, p0, q0, hargs, rfl, rfl, h0, r0⟩ := trodAll_cons hA
  obtain ⟨v1, vs1, d1, ds1, p1, q1, rfl, rfl, rfl, h1, r1⟩ := trodAll_cons r0
  obtain ⟨v2, vs2, d2, ds2, p2, q2, rfl, rfl, rfl, h2, r2⟩ := trodAll_cons r1
  obtain ⟨rfl, rfl, rfl⟩ := trodAll_nil r2
  obtain rfl : args = #[v0, v1, v2] := by cases args; simp_all
  obtain ⟨a0, rfl, rfl, rfl, _⟩ := open_string Tryd.underlying9 (hval 0 9 v0 rfl rfl) h0
  have w0 : a0.size ≤ 140737488351232 := by have := sized_string (j := 0) hsz rfl rfl; simpa [reachBytes] using this
  obtain ⟨a1, rfl, rfl, rfl, w1⟩ := open_int Tryd.underlying3 (hval 1 3 v1 rfl rfl) h1
  obtain ⟨a2, rfl, rfl, rfl⟩ := open_bool Tryd.underlying4 (hval 2 4 v2 rfl rfl) h2
  refine (walk a0 a1 a2 W w0 w1 hL).mono fun e W' ⟨he, hb⟩ => ?_
  subst he
  have hlen : gs.length = 2 := LawFrame.vars_length hV
  exact ⟨_, rfl, LawFrame.law_post laidOut (by kernel_rfl) (by kernel_rfl) rfl Tryd.underlying4 hW' (by match gs, hlen with | [g0, g1], _ => rfl) hb⟩

theorem met (os : Os) : laidMetH Tryd.prog Rows.fnFmtQPlusIsPrintableASCIIRow.laid ((World.laidAll Tryd.prog os Rows.fnFmtQPlusIsPrintableASCIIRow.laid).forCall (fun _ _ => 0) ⟨#[], #[.string ⟨#[]⟩, .int .i64 0, .bool false], []⟩).memory := by
  rw [MakeChecks.laidMetH_plain _ _ _ (by kernel_rfl)]
  exact laidMet_laidAll _ (by kernel_rfl) (by kernel_rfl)

theorem wv (os : Os) : ((World.laidAll Tryd.prog os Rows.fnFmtQPlusIsPrintableASCIIRow.laid).forCall (fun _ _ => 0) ⟨#[], #[.string ⟨#[]⟩, .int .i64 0, .bool false], []⟩).variablesZipB Tryd.checked.prog = true := by kernel_rfl
theorem wr (os : Os) : (((World.laidAll Tryd.prog os Rows.fnFmtQPlusIsPrintableASCIIRow.laid).forCall (fun _ _ => 0) ⟨#[], #[.string ⟨#[]⟩, .int .i64 0, .bool false], []⟩).heap.toList.drop Tryd.checked.prog.globals.size).take ((begin Tryd.checked.prog (fun _ _ => 0) default).world.heap.size - Tryd.checked.prog.globals.size) = (begin Tryd.checked.prog (fun _ _ => 0) default).world.heap.toList.drop Tryd.checked.prog.globals.size := by kernel_rfl
theorem wo (os : Os) : Input.okWideB Tryd.checked.prog ((World.laidAll Tryd.prog os Rows.fnFmtQPlusIsPrintableASCIIRow.laid).forCall (fun _ _ => 0) ⟨#[], #[.string ⟨#[]⟩, .int .i64 0, .bool false], []⟩) 3 ⟨#[], #[.string ⟨#[]⟩, .int .i64 0, .bool false], []⟩ = true := by kernel_rfl
set_option maxRecDepth 100000 in
theorem wp (os : Os) (H : Type) (enc : TypeId × Value → H) : (OpenSpec.ofChange Rows.fnFmtQPlusIsPrintableASCIISpec).preRow enc Tryd.checked.prog Tryd.f3 Rows.fnFmtQPlusIsPrintableASCIIRow.domain false Rows.fnFmtQPlusIsPrintableASCIIRow.laid ((World.laidAll Tryd.prog os Rows.fnFmtQPlusIsPrintableASCIIRow.laid).forCall (fun _ _ => 0) ⟨#[], #[.string ⟨#[]⟩, .int .i64 0, .bool false], []⟩).memory #[.string ⟨#[]⟩, .int .i64 0, .bool false] :=
  LawFrame.preRow_of_run 8 (by kernel_rfl) (by kernel_rfl) (met os)

set_option maxRecDepth 100000 in
theorem lifted (os : Os) (started : os.Started) (H : Type) (enc : TypeId × Value → H) (F : Stop.Interp) :
    ReturnsInHanded {} Tryd.checked os 3 .any ((OpenSpec.ofChange Rows.fnFmtQPlusIsPrintableASCIISpec).preRow enc Tryd.prog Tryd.f3 Rows.fnFmtQPlusIsPrintableASCIIRow.domain false Rows.fnFmtQPlusIsPrintableASCIIRow.laid) (((OpenSpec.ofChange Rows.fnFmtQPlusIsPrintableASCIISpec).at F).post enc Tryd.prog Tryd.f3 false true false false) := by
  refine returnsInHanded_of_row (C := Tryd.checked) (s := OpenSpec.ofChange Rows.fnFmtQPlusIsPrintableASCIISpec) own started (by kernel_rfl) Tryd.func3
    (LawFrame.witness_zip (enc := enc) (C := Tryd.checked) false (World.laidAll Tryd.prog os Rows.fnFmtQPlusIsPrintableASCIIRow.laid) #[.string ⟨#[]⟩, .int .i64 0, .bool false] (World.laidAll_os _ _ _) (wv os) (wr os) (wo os)
      (wp os H enc)) ?_
  intro W base args ds gs before hval hW _ hcond hsz hL _ _
  exact contract H enc W base args ds gs before hval hW hsz hL

theorem said : Rows.FnFmtQPlusIsPrintableASCIISaid :=
  OpenClaim.holds_of_cond 3 Tryd.f3 rfl rfl rfl rfl rfl rfl rfl ⟨rfl, rfl, rfl, rfl, rfl⟩ rfl rfl rfl rfl rfl (by kernel_rfl) Tryd.func3 (by kernel_rfl)
    (of_decide_eq_true (by kernel_rfl)) (by unfold Func.isWrapper; first | (rw [if_pos (by decide +kernel)]; kernel_rfl) | (rw [if_neg (by decide +kernel)]; exact ⟨rfl, rfl⟩))
    (fun os started H enc _ F => by rw [OpenClaim.pre_eq_preRow]; exact lifted os started H enc F)

theorem plain (f : FuncId) (fn : Func) (hf : Tryd.pinned.checked.prog.funcNamed Rows.fnFmtQPlusIsPrintableASCIIRow.func = some f) (hfn : Tryd.pinned.checked.prog.funcs[f]? = some fn) :
    false = Tryd.pinned.checked.prog.looks [] ∧ ∀ (j : Nat) t, fn.params[j]? = some t → Tryd.pinned.checked.prog.wantsStandIn t = false := by
  obtain rfl : f = 3 := Option.some.inj ((show Tryd.prog.funcNamed Rows.fnFmtQPlusIsPrintableASCIIRow.func = some 3 by kernel_rfl).symm.trans hf) |>.symm
  obtain rfl : fn = Tryd.f3 := (Option.some.inj (Tryd.func3.symm.trans hfn)).symm
  refine ⟨by kernel_rfl, fun j t ht => ?_⟩
  rw [Tryd.params3] at ht
  have hall : ((#[9, 3, 4] : Array TypeId).all fun t => !(Tryd.prog.wantsStandIn t)) = true := by kernel_rfl
  have := Array.all_eq_true_iff_forall_mem.1 hall t (Array.mem_of_getElem? ht)
  exact (by simpa using this : Tryd.prog.wantsStandIn t = false)

/-- THE CARD. -/
theorem card : Rows.FnFmtQPlusIsPrintableASCIICardSaid :=
  Claim7.holds_tied_plain_at .later [] _ _ _ _ said (fun _ h => by cases h) (by kernel_rfl) (fun _ h => by cases h) fnFmtQPlusIsPrintableASCII_row_tie rfl ⟨rfl, rfl⟩ (by kernel_rfl) rfl plain (by kernel_rfl)
#print axioms card
end Go.Proofs.YtlekmfkcbgkfgaaDoor.fnFmtQPlusIsPrintableASCII
