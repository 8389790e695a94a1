/- The law FnIntegerSpec returns true on every input, proved from its walk (YtfpjkkjhdblmkaaDoorIsW); the listed package variables are tied to the program's text by the given tie. -/
import Derived.Test.YtfpjkkjhdblmkaaDoorCards
import Derived.Test.YtfpjkkjhdblmkaaDoorTie
import Derived.Test.YtfpjkkjhdblmkaaDoorFrame
import Derived.Test.YtfpjkkjhdblmkaaDoorIsW
import Derived.SizedLaws
namespace Go.Proofs.YtfpjkkjhdblmkaaDoor.fnIntegerSpec
open Go.ChangeShapes Go.WideShapes Go.ChangeAt Go.RowKit
open Go.ChangeMaps (open_string shut_string)
set_option linter.unusedVariables false

theorem own : ownKnob Tryd.prog.godebug = none := by kernel_rfl
theorem laidOut : laidOutB Tryd.prog = true := by kernel_rfl
set_option maxRecDepth 100000 in
theorem contract (H : Type) (enc : TypeId × Value → H) (W : World) (base : Nat) (args : Array Value) (ds gs : List (DataW H)) (before : List MemPlace)
    (hval : ∀ (j : Nat) t v, Tryd.f5.params[j]? = some t → args[j]? = some v → Value.okWide Tryd.prog W .any base t v)
    (hW : DataW.Whole enc Tryd.prog Tryd.f5.params.toList Rows.fnIntegerSpecSpec.vars false W args.toList ds gs before)
    (hsz : (DataW.weightsEach Tryd.prog (Tryd.f5.params.toList ++ (OpenSpec.ofChange Rows.fnIntegerSpecSpec).bare.plain.varTypes Tryd.prog) (ds ++ gs)).all (· ≤ reachBytes) = true)
    (hL : laidMetH Tryd.prog Rows.fnIntegerSpecRow.laid W) :
    Calls Tryd.prog 5 args W fun e W' => ∃ v, e = .returned v ∧ Rows.fnIntegerSpecSpec.post enc Tryd.prog Tryd.f5 false true false false W args v W' := by
  have hW' := hW
  obtain ⟨p, q, hA, hV, rfl, hfz, hnd⟩ := hW
  rw [Tryd.params5] at hA hval hsz
  obtain ⟨v0, vs0, d0, ds0, p0, q0, hargs, rfl, rfl, h0, r0⟩ := trodAll_cons hA
  obtain ⟨v1, vs1, d1, ds1, p1, q1, rfl, rfl, rfl, h1, r1⟩ := trodAll_cons r0
  obtain ⟨v2, vs2, d2, ds2, p2, q2, rfl, rfl, rfl, h2, r2⟩ := trodAll_cons r1
  obtain ⟨v3, vs3, d3, ds3, p3, q3, rfl, rfl, rfl, h3, r3⟩ := trodAll_cons r2
  obtain ⟨v4, vs4, d4, ds4, p4, q4, rfl, rfl, rfl, h4, r4⟩ := trodAll_cons r3
  obtain ⟨v5, vs5, d5, ds5, p5, q5, rfl, rfl, rfl, h5, r5⟩ := trodAll_cons r4
  obtain ⟨v6, vs6, d6, ds6, p6, q6, rfl, rfl, rfl, h6, r6⟩ := trodAll_cons r5
  obtain ⟨v7, vs7, d7, ds7, p7, q7, rfl, rfl, rfl, h7, r7⟩ := trodAll_cons r6
  obtain ⟨v8, vs8, d8, ds8, p8, q8, rfl, rfl, rfl, h8, r8⟩ := trodAll_cons r7
  obtain ⟨v9, vs9, d9, ds9, p9, q9, rfl, rfl, rfl, h9, r9⟩ := trodAll_cons r8
  obtain ⟨rfl, rfl, rfl⟩ := trodAll_nil r9
  obtain rfl : args = #[v0, v1, v2, v3, v4, v5, v6, v7, v8, v9] := by cases args; simp_all
  obtain ⟨a0, rfl, rfl, rfl, w0⟩ := open_int Tryd.underlying22 (hval 0 22 v0 rfl rfl) h0
  obtain ⟨a1, rfl, rfl, rfl, w1⟩ := open_int Tryd.underlying3 (hval 1 3 v1 rfl rfl) h1
  obtain ⟨a2, rfl, rfl, rfl⟩ := open_bool Tryd.underlying4 (hval 2 4 v2 rfl rfl) h2
  obtain ⟨a3, rfl, rfl, rfl, w3⟩ := open_int Tryd.underlying21 (hval 3 21 v3 rfl rfl) h3
  obtain ⟨a4, rfl, rfl, rfl⟩ := open_bool Tryd.underlying4 (hval 4 4 v4 rfl rfl) h4
  obtain ⟨a5, rfl, rfl, rfl⟩ := open_bool Tryd.underlying4 (hval 5 4 v5 rfl rfl) h5
  obtain ⟨a6, rfl, rfl, rfl, w6⟩ := open_int Tryd.underlying3 (hval 6 3 v6 rfl rfl) h6
  obtain ⟨a7, rfl, rfl, rfl⟩ := open_bool Tryd.underlying4 (hval 7 4 v7 rfl rfl) h7
  obtain ⟨a8, rfl, rfl, rfl, w8⟩ := open_int Tryd.underlying3 (hval 8 3 v8 rfl rfl) h8
  obtain ⟨a9, rfl, rfl, rfl, w9⟩ := open_int Tryd.underlying5 (hval 9 5 v9 rfl rfl) h9
  refine (walk a0 a1 a2 a3 a4 a5 a6 a7 a8 a9 W w0 w1 w3 w6 w8 w9 hL).mono fun e W' ⟨he, hb⟩ => ?_
  subst he
  have hlen : gs.length = 2 := LawFrame.vars_length hV
  exact ⟨_, rfl, LawFrame.law_post laidOut (by kernel_rfl) (by kernel_rfl) rfl Tryd.underlying4 hW' (by match gs, hlen with | [g0, g1], _ => rfl) hb⟩

theorem met (os : Os) : laidMetH Tryd.prog Rows.fnIntegerSpecRow.laid ((World.doorLaid Tryd.prog 4000 os).forCall (fun _ _ => 0) ⟨#[], #[.int .u64 0, .int .i64 0, .bool false, .int .i32 0, .bool false, .bool false, .int .i64 0, .bool false, .int .i64 0, .int .u8 0], []⟩).memory :=
  laidMetH_of_parts3 (fuel := 8) (laidMet_of_run' 8 (by kernel_rfl) (by kernel_rfl)) (by kernel_rfl) (by kernel_rfl)

theorem wv (os : Os) : ((World.doorLaid Tryd.prog 4000 os).forCall (fun _ _ => 0) ⟨#[], #[.int .u64 0, .int .i64 0, .bool false, .int .i32 0, .bool false, .bool false, .int .i64 0, .bool false, .int .i64 0, .int .u8 0], []⟩).variablesRefB Tryd.checked.prog = true := by kernel_rfl
theorem wr (os : Os) : (((World.doorLaid Tryd.prog 4000 os).forCall (fun _ _ => 0) ⟨#[], #[.int .u64 0, .int .i64 0, .bool false, .int .i32 0, .bool false, .bool false, .int .i64 0, .bool false, .int .i64 0, .int .u8 0], []⟩).heap.toList.drop Tryd.checked.prog.globals.size).take ((begin Tryd.checked.prog (fun _ _ => 0) default).world.heap.size - Tryd.checked.prog.globals.size) = (begin Tryd.checked.prog (fun _ _ => 0) default).world.heap.toList.drop Tryd.checked.prog.globals.size := by kernel_rfl
theorem wo (os : Os) : Input.okWideB Tryd.checked.prog ((World.doorLaid Tryd.prog 4000 os).forCall (fun _ _ => 0) ⟨#[], #[.int .u64 0, .int .i64 0, .bool false, .int .i32 0, .bool false, .bool false, .int .i64 0, .bool false, .int .i64 0, .int .u8 0], []⟩) 5 ⟨#[], #[.int .u64 0, .int .i64 0, .bool false, .int .i32 0, .bool false, .bool false, .int .i64 0, .bool false, .int .i64 0, .int .u8 0], []⟩ = true := by kernel_rfl
set_option maxRecDepth 100000 in
theorem wp (os : Os) (H : Type) (enc : TypeId × Value → H) : (OpenSpec.ofChange Rows.fnIntegerSpecSpec).preRow enc Tryd.checked.prog Tryd.f5 Rows.fnIntegerSpecRow.domain false Rows.fnIntegerSpecRow.laid ((World.doorLaid Tryd.prog 4000 os).forCall (fun _ _ => 0) ⟨#[], #[.int .u64 0, .int .i64 0, .bool false, .int .i32 0, .bool false, .bool false, .int .i64 0, .bool false, .int .i64 0, .int .u8 0], []⟩).memory #[.int .u64 0, .int .i64 0, .bool false, .int .i32 0, .bool false, .bool false, .int .i64 0, .bool false, .int .i64 0, .int .u8 0] :=
  LawFrame.preRow_of_run 8 (by kernel_rfl) (by kernel_rfl) (met os)

set_option maxRecDepth 100000 in
theorem lifted (os : Os) (started : os.Started) (H : Type) (enc : TypeId × Value → H) (F : Stop.Interp) :
    ReturnsInHanded {} Tryd.checked os 5 .any ((OpenSpec.ofChange Rows.fnIntegerSpecSpec).preRow enc Tryd.prog Tryd.f5 Rows.fnIntegerSpecRow.domain false Rows.fnIntegerSpecRow.laid) (((OpenSpec.ofChange Rows.fnIntegerSpecSpec).at F).post enc Tryd.prog Tryd.f5 false true false false) := by
  refine returnsInHanded_of_row (C := Tryd.checked) (s := OpenSpec.ofChange Rows.fnIntegerSpecSpec) own started (by kernel_rfl) Tryd.func5
    (witness_row_atRef (enc := enc) (C := Tryd.checked) false (World.doorLaid Tryd.prog 4000 os) #[.int .u64 0, .int .i64 0, .bool false, .int .i32 0, .bool false, .bool false, .int .i64 0, .bool false, .int .i64 0, .int .u8 0] rfl (wv os) (wr os) (wo os)
      (wp os H enc)) ?_
  intro W base args ds gs before hval hW _ hcond hsz hL _ _
  exact contract H enc W base args ds gs before hval hW hsz hL

theorem said : Rows.FnIntegerSpecSaid :=
  OpenClaim.holds_of_cond 5 Tryd.f5 rfl rfl rfl rfl rfl rfl rfl ⟨rfl, rfl, rfl, rfl, rfl⟩ rfl rfl rfl rfl rfl (by kernel_rfl) Tryd.func5 (by kernel_rfl)
    (of_decide_eq_true (by kernel_rfl)) (by unfold Func.isWrapper; first | (rw [if_pos (by decide +kernel)]; kernel_rfl) | (rw [if_neg (by decide +kernel)]; exact ⟨rfl, rfl⟩))
    (fun os started H enc _ F => by rw [OpenClaim.pre_eq_preRow]; exact lifted os started H enc F)

theorem plain (f : FuncId) (fn : Func) (hf : Tryd.pinned.checked.prog.funcNamed Rows.fnIntegerSpecRow.func = some f) (hfn : Tryd.pinned.checked.prog.funcs[f]? = some fn) :
    false = Tryd.pinned.checked.prog.looks [] ∧ ∀ (j : Nat) t, fn.params[j]? = some t → Tryd.pinned.checked.prog.wantsStandIn t = false := by
  obtain rfl : f = 5 := Option.some.inj ((show Tryd.prog.funcNamed Rows.fnIntegerSpecRow.func = some 5 by kernel_rfl).symm.trans hf) |>.symm
  obtain rfl : fn = Tryd.f5 := (Option.some.inj (Tryd.func5.symm.trans hfn)).symm
  refine ⟨by kernel_rfl, fun j t ht => ?_⟩
  rw [Tryd.params5] at ht
  have hall : ((#[22, 3, 4, 21, 4, 4, 3, 4, 3, 5] : Array TypeId).all fun t => !(Tryd.prog.wantsStandIn t)) = true := by kernel_rfl
  have := Array.all_eq_true_iff_forall_mem.1 hall t (Array.mem_of_getElem? ht)
  exact (by simpa using this : Tryd.prog.wantsStandIn t = false)

/-- THE CARD. -/
theorem card : Rows.FnIntegerSpecCardSaid :=
  Claim7.holds_tied_plain_at .later [] _ _ _ _ said (fun _ h => by cases h) (by kernel_rfl) (fun _ h => by cases h) fnIntegerSpec_row_tie rfl ⟨rfl, rfl⟩ (by kernel_rfl) rfl plain (by kernel_rfl)
#print axioms card
end Go.Proofs.YtfpjkkjhdblmkaaDoor.fnIntegerSpec
