/- A row over a stop whose walk is told, besides, that every package-level variable holds what its type allows; and what that gives of the table of powers of ten. -/
import Derived.Test.YtaeinldkhjmleaaFmtFi
import Derived.Stop.JoinedTold
import Derived.KernelRfl
namespace Go.Proofs.YtaeinldkhjmleaaFmt.Shp
open Go.ChangeShapes Go.WideShapes Go.RowKit
theorem told_of_row {H : Type} {enc : TypeId × Value → H} {C : Checked} {os : Os} {f : FuncId} {fn : Func} {s : OpenSpec} {conds : List PathCond} {apart fresh handsOn again : Bool} {laid : List (String × DataW Unit)}
    (enter : C.prog.mayEnter = true) (own : ownKnob C.prog.godebug = none) (started : os.Started) (noInit : C.prog.inits.idxOf? f = none) (hfn : C.prog.funcs[f]? = some fn)
    (witness : ∀ F : Stop.Interp, ∃ (w : World) (tape : Tape) (i : Input), w.os = os ∧ (w.forCall tape i).Shaped C.prog ∧ i.vars = [] ∧ Input.okWide C.prog (w.forCall tape i) .any w.heap.size f i ∧
      s.preRow enc C.prog fn conds apart laid (w.forCall tape i).memory i.args ∧ Assume.holds {} C.prog (lone (Frame.enter C.prog f i.args .normal) [] (w.forCall tape i)) ∧ F.answers tape)
    (contract : ∀ (F : Stop.Interp) (W : World) (base : Nat) (args : Array Value) (ds gs : List (DataW H)) (before : List MemPlace),
      World.ShapedOpen C.prog W → F.told.answers W.tape →
      (∀ (j : Nat) t v, fn.params[j]? = some t → args[j]? = some v → Value.okWide C.prog W .any base t v) →
      DataW.Whole enc C.prog fn.params.toList s.vars apart W args.toList ds gs before →
      (DataW.weightsEach C.prog (fn.params.toList ++ s.bare.plain.varTypes C.prog) (ds ++ gs)).all (· ≤ reachBytes) = true →
      laidMetH C.prog laid W →
      Calls C.prog f args W fun e W' => ∃ v, e = .returned v ∧ (s.at F.told).post enc C.prog fn apart fresh handsOn again W args v W') :
    ReturnsInTold none {} C os f .any Input.okWide (s.preRow enc C.prog fn conds apart laid) (fun F => (s.at F).post enc C.prog fn apart fresh handsOn again) (aloneAtReturn C.prog) nothingAlways := by
  intro F
  show ReturnsInOpen {} (some F.told) C os f .any Input.okWide _ _ (aloneAtReturn C.prog) nothingAlways
  refine returnsInOpen_of_calls_wide enter own started noInit (witness F.told) ?_
  intro w tape i _ hsh _ hok hpre _ hF
  obtain ⟨_, _, _, fn', hfn', _, _, _, _, hval⟩ := hok
  obtain rfl : fn' = fn := Option.some.inj (hfn'.symm.trans hfn)
  obtain ⟨⟨hp, hl⟩, hz⟩ := hpre
  obtain ⟨ds, gs, before, hw, _, _⟩ := OpenSpec.pre_parts hp
  refine (contract F (w.forCall tape i) w.heap.size i.args ds gs before hsh hF hval (DataW.Whole.of_heap (w' := w.forCall tape i) (by rfl) hw) (hz.weights hw) (hl.of_heap (by rfl))).mono fun e W' h => ?_
  obtain ⟨v, he, h2⟩ := h
  subst he
  exact ChangeSpec.post_blind h2
theorem tab {W : World} (h : World.ShapedOpen Tryf.prog W) : ∃ T : Nat → Int, Fi.Tab T W := by
  have hs : Tryf.prog.globals.size = 7 := by kernel_rfl
  have h0 := h.1 3 (Array.replicate 20 (.int .u64 0)) 96 (by omega) (by kernel_rfl)
  obtain ⟨cs, hcs, hsz, hok⟩ := h0
  obtain ⟨ts, hts, _, hc⟩ := hok (by kernel_rfl)
  have ht : Tryf.prog.cellTypes Tryf.prog.depth 96 = some (List.replicate 20 47) := by kernel_rfl
  obtain rfl : ts = List.replicate 20 47 := Option.some.inj (hts.symm.trans ht)
  refine ⟨fun j => match cs[j]? with | some (.int _ z) => z | _ => 0, fun j hj => ?_⟩
  have hj' : j < cs.size := by rw [hsz]; simpa using hj
  obtain ⟨u, hu, hcell⟩ := hc j cs[j] (Array.getElem?_eq_getElem hj')
  have hu2 : u = 47 := by
    have := List.mem_of_getElem? hu
    exact List.eq_of_mem_replicate this
  subst hu2
  unfold Cell.ok at hcell
  rw [Tryf.underlying47] at hcell
  have hv : ∃ z, cs[j] = .int .u64 z := by
    generalize cs[j] = v at hcell
    cases v <;> simp_all
  obtain ⟨z, hz⟩ := hv
  simp [World.cell?, hcs, Array.getElem?_eq_getElem hj', hz]
end Go.Proofs.YtaeinldkhjmleaaFmt.Shp
