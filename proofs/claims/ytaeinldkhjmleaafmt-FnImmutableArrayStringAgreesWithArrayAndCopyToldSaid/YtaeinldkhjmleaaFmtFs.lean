/- The closed facts for a walk over fmt.Sprintf's stop at the format of an array's String (after the kit's example LabelFmt, turned to this dump). -/
import Derived.Test.YtaeinldkhjmleaaFmtProg
import Derived.WalkSpells
import Derived.KernelRfl
import Derived.Stop.AnswerFmt
import Derived.Stop.FmtLaws
import Derived.Stop.IfaceNil
import GoSem.ClaimData
namespace Go.Proofs.YtaeinldkhjmleaaFmt.Ft
open Go.Extern.Stop Go.Stop Go.Extern
theorem callF (args : Array Value) (w : World) : (callFunc 13 args).run Tryf.prog w = ((FmtStop.sprintf #[9, 104] #[9] args).run Tryf.prog w).andThen fun v w' => .ok (.value v) w' :=
  run_callFunc_extern Tryf.func13 (by kernel_rfl) (by kernel_rfl) (by kernel_rfl) (by kernel_rfl) args w
theorem guardF (name : String) (w : World) : (FmtStop.guard name).run Tryf.prog w = .ok () w := by kernel_rfl
def fmt0 : ByteArray := ⟨#[91, 37, 115, 93]⟩
theorem p0 : FmtStop.printed? ⟨#[91, 37, 115, 93]⟩ 1 = some [(0, 115, false)] := by kernel_rfl
def shS : List UInt8 := [12, 6, 0, 0, 0, 0, 0, 0, 0, 115, 116, 114, 105, 110, 103]
theorem opS (name : String) (x : ByteArray) (w : World) : (FmtStop.operand name false 115 false (.iface 9 (.string x))).run Tryf.prog w = .ok (shS, FmtStop.pack x.data.toList) w := by kernel_rfl
/-- What fmt gives. -/
def text0 (F : Interp) (s : ByteArray) : ByteArray := FmtStop.textOf (F "fmt.Sprintf" [fmt0.data.toList, shS, FmtStop.pack s.data.toList] 0)
theorem cellsF (w : World) (A : Addr) (vs : List Value) (n : Nat) (hn : n = vs.length) (h : ∀ j v, vs[j]? = some v → w.cell? (A.add j) = some v) : (FmtStop.cells (.slice (some A) n n)).run Tryf.prog w = .ok vs w := by
  subst hn
  have h1 := run_loadCells_list (P := Tryf.prog) w A vs h
  unfold FmtStop.cells
  simp only [Sem.run_bind, h1, Result.andThen_ok]
  simp
theorem run0 (F : Interp) (w : World) (hF : F.answers w.tape) (A : Addr) (s : ByteArray) (h0 : w.cell? A = some (.iface 9 (.string s))) :
    (callFunc 13 #[.string ⟨#[91, 37, 115, 93]⟩, .slice (some A) 1 1]).run Tryf.prog w = .ok (.value (.string (text0 F s))) w.drew := by
  have hc := cellsF w A [.iface 9 (.string s)] 1 rfl (fun j v hj => by
    rcases j with _ | j
    · simp at hj; subst hj; exact h0
    · simp at hj)
  have hr : (FmtStop.readAll "fmt.Sprintf" false [.iface 9 (.string s)] [(0, 115, false)]).run Tryf.prog w = .ok [(shS, FmtStop.pack s.data.toList)] w := by
    simp [FmtStop.readAll, opS]
  have ht := FmtStop.run_text (P := Tryf.prog) F "fmt.Sprintf" [fmt0.data.toList] [(shS, FmtStop.pack s.data.toList)] w hF
  rw [callF, FmtStop.sprintf_lit]
  simp only [Sem.run_bind, guardF, Result.andThen_ok, hc, List.length_cons, List.length_nil, Nat.reduceAdd, p0, hr]
  exact congrArg (fun r => Result.andThen r fun v w' => Result.ok (Next.value v) w') ht
end Go.Proofs.YtaeinldkhjmleaaFmt.Ft
