/- The closed facts for a walk over fmt.Sprintf's stop at the three formats of FormatInstructions (after the kit's example LabelFmt, turned to this dump). -/
import Derived.Test.YtjnoodilpffbiaaFmtBase
import Derived.WalkSpells
import Derived.KernelRfl
import Derived.Stop.AnswerFmt
import Derived.Stop.FmtLaws
import Derived.Stop.IfaceNil
import GoSem.ClaimData
namespace Go.Proofs.YtjnoodilpffbiaaFmt.Ft
open Go.Extern.Stop Go.Stop Go.Extern

theorem callF (args : Array Value) (w : World) : (callFunc 15 args).run Tryf.prog w = ((FmtStop.sprintf #[9, 58] #[9] args).run Tryf.prog w).andThen fun v w' => .ok (.value v) w' :=
  run_callFunc_extern Tryf.func15 (by kernel_rfl) (by kernel_rfl) (by kernel_rfl) (by kernel_rfl) args w
theorem guardF (name : String) (w : World) : (FmtStop.guard name).run Tryf.prog w = .ok () w := by kernel_rfl
def fmt0 : ByteArray := ⟨#[37, 48, 52, 100, 32, 37, 45, 55, 115]⟩
def fmt1 : ByteArray := ⟨#[37, 48, 52, 100, 32, 37, 45, 55, 115, 32, 37, 45, 53, 100]⟩
def fmt2 : ByteArray := ⟨#[37, 48, 52, 100, 32, 37, 45, 55, 115, 32, 37, 45, 53, 100, 32, 37, 45, 53, 100]⟩
theorem p0 : FmtStop.printed? ⟨#[37, 48, 52, 100, 32, 37, 45, 55, 115]⟩ 2 = some [(0, 100, false), (1, 115, false)] := by kernel_rfl
theorem p0r (w : World) : (FmtDoors.printed ⟨#[37, 48, 52, 100, 32, 37, 45, 55, 115]⟩ 2).run Tryf.prog w = .ok [(0, 100, false), (1, 115, false)] w := by kernel_rfl
theorem p1 : FmtStop.printed? ⟨#[37, 48, 52, 100, 32, 37, 45, 55, 115, 32, 37, 45, 53, 100]⟩ 3 = some [(0, 100, false), (1, 115, false), (2, 100, false)] := by kernel_rfl
theorem p1r (w : World) : (FmtDoors.printed ⟨#[37, 48, 52, 100, 32, 37, 45, 55, 115, 32, 37, 45, 53, 100]⟩ 3).run Tryf.prog w = .ok [(0, 100, false), (1, 115, false), (2, 100, false)] w := by kernel_rfl
theorem p2 : FmtStop.printed? ⟨#[37, 48, 52, 100, 32, 37, 45, 55, 115, 32, 37, 45, 53, 100, 32, 37, 45, 53, 100]⟩ 4 = some [(0, 100, false), (1, 115, false), (2, 100, false), (3, 100, false)] := by kernel_rfl
theorem p2r (w : World) : (FmtDoors.printed ⟨#[37, 48, 52, 100, 32, 37, 45, 55, 115, 32, 37, 45, 53, 100, 32, 37, 45, 53, 100]⟩ 4).run Tryf.prog w = .ok [(0, 100, false), (1, 115, false), (2, 100, false), (3, 100, false)] w := by kernel_rfl
def shI : List UInt8 := [5, 3, 0, 0, 0, 0, 0, 0, 0, 105, 110, 116]
def shS : List UInt8 := [12, 6, 0, 0, 0, 0, 0, 0, 0, 115, 116, 114, 105, 110, 103]
theorem opI (name : String) (x : Int) (w : World) : (FmtStop.operand name false 100 false (.iface 3 (.int .i64 x))).run Tryf.prog w = .ok (shI, Go.Extern.Stop.digits 8 (x % 2 ^ 64).toNat) w := by kernel_rfl
theorem opS (name : String) (x : ByteArray) (w : World) : (FmtStop.operand name false 115 false (.iface 9 (.string x))).run Tryf.prog w = .ok (shS, FmtStop.pack x.data.toList) w := by kernel_rfl

/-- What fmt gives. -/
def dg (x : Int) : List UInt8 := Go.Extern.Stop.digits 8 (x % 2 ^ 64).toNat
def text0 (F : Interp) (x : Int) (s : ByteArray) : ByteArray := FmtStop.textOf (F "fmt.Sprintf" [fmt0.data.toList, shI, dg x, shS, FmtStop.pack s.data.toList] 0)
def text1 (F : Interp) (x : Int) (s : ByteArray) (y : Int) : ByteArray := FmtStop.textOf (F "fmt.Sprintf" [fmt1.data.toList, shI, dg x, shS, FmtStop.pack s.data.toList, shI, dg y] 0)
def text2 (F : Interp) (x : Int) (s : ByteArray) (y z : Int) : ByteArray := FmtStop.textOf (F "fmt.Sprintf" [fmt2.data.toList, shI, dg x, shS, FmtStop.pack s.data.toList, shI, dg y, shI, dg z] 0)
theorem cellsF (w : World) (A : Addr) (vs : List Value) (n : Nat) (hn : n = vs.length) (h : ∀ j v, vs[j]? = some v → w.cell? (A.add j) = some v) : (FmtStop.cells (.slice (some A) n n)).run Tryf.prog w = .ok vs w := by
  subst hn
  have h1 := run_loadCells_list (P := Tryf.prog) w A vs h
  unfold FmtStop.cells
  simp only [Sem.run_bind, h1, Result.andThen_ok]
  simp
theorem run0 (F : Interp) (w : World) (hF : F.answers w.tape) (A : Addr) (x : Int) (s : ByteArray) (h0 : w.cell? A = some (.iface 3 (.int .i64 x))) (h1 : w.cell? (A.add 1) = some (.iface 9 (.string s))) :
    (callFunc 15 #[.string ⟨#[37, 48, 52, 100, 32, 37, 45, 55, 115]⟩, .slice (some A) 2 2]).run Tryf.prog w = .ok (.value (.string (text0 F x s))) w.drew := by
  have hc := cellsF w A [.iface 3 (.int .i64 x), .iface 9 (.string s)] 2 rfl (fun j v hj => by
    rcases j with _ | _ | j
    · simp at hj; subst hj; exact h0
    · simp at hj; subst hj; exact h1
    · simp at hj)
  have hr : (FmtStop.readAll "fmt.Sprintf" false [.iface 3 (.int .i64 x), .iface 9 (.string s)] [(0, 100, false), (1, 115, false)]).run Tryf.prog w = .ok [(shI, dg x), (shS, FmtStop.pack s.data.toList)] w := by
    simp [FmtStop.readAll, opI, opS, dg]
  have ht := FmtStop.run_text (P := Tryf.prog) F "fmt.Sprintf" [fmt0.data.toList] [(shI, dg x), (shS, FmtStop.pack s.data.toList)] w hF
  rw [callF, FmtStop.sprintf_lit]
  simp only [Sem.run_bind, guardF, Result.andThen_ok, hc, List.length_cons, List.length_nil, Nat.reduceAdd, p0, hr]
  exact congrArg (fun r => Result.andThen r fun v w' => Result.ok (Next.value v) w') ht
theorem run1 (F : Interp) (w : World) (hF : F.answers w.tape) (A : Addr) (x : Int) (s : ByteArray) (y : Int) (h0 : w.cell? A = some (.iface 3 (.int .i64 x))) (h1 : w.cell? (A.add 1) = some (.iface 9 (.string s))) (h2 : w.cell? (A.add 2) = some (.iface 3 (.int .i64 y))) :
    (callFunc 15 #[.string ⟨#[37, 48, 52, 100, 32, 37, 45, 55, 115, 32, 37, 45, 53, 100]⟩, .slice (some A) 3 3]).run Tryf.prog w = .ok (.value (.string (text1 F x s y))) w.drew := by
  have hc := cellsF w A [.iface 3 (.int .i64 x), .iface 9 (.string s), .iface 3 (.int .i64 y)] 3 rfl (fun j v hj => by
    rcases j with _ | _ | _ | j
    · simp at hj; subst hj; exact h0
    · simp at hj; subst hj; exact h1
    · simp at hj; subst hj; exact h2
    · simp at hj)
  have hr : (FmtStop.readAll "fmt.Sprintf" false [.iface 3 (.int .i64 x), .iface 9 (.string s), .iface 3 (.int .i64 y)] [(0, 100, false), (1, 115, false), (2, 100, false)]).run Tryf.prog w = .ok [(shI, dg x), (shS, FmtStop.pack s.data.toList), (shI, dg y)] w := by
    simp [FmtStop.readAll, opI, opS, dg]
  have ht := FmtStop.run_text (P := Tryf.prog) F "fmt.Sprintf" [fmt1.data.toList] [(shI, dg x), (shS, FmtStop.pack s.data.toList), (shI, dg y)] w hF
  rw [callF, FmtStop.sprintf_lit]
  simp only [Sem.run_bind, guardF, Result.andThen_ok, hc, List.length_cons, List.length_nil, Nat.reduceAdd, p1, hr]
  exact congrArg (fun r => Result.andThen r fun v w' => Result.ok (Next.value v) w') ht
theorem run2 (F : Interp) (w : World) (hF : F.answers w.tape) (A : Addr) (x : Int) (s : ByteArray) (y z : Int) (h0 : w.cell? A = some (.iface 3 (.int .i64 x))) (h1 : w.cell? (A.add 1) = some (.iface 9 (.string s))) (h2 : w.cell? (A.add 2) = some (.iface 3 (.int .i64 y))) (h3 : w.cell? (A.add 3) = some (.iface 3 (.int .i64 z))) :
    (callFunc 15 #[.string ⟨#[37, 48, 52, 100, 32, 37, 45, 55, 115, 32, 37, 45, 53, 100, 32, 37, 45, 53, 100]⟩, .slice (some A) 4 4]).run Tryf.prog w = .ok (.value (.string (text2 F x s y z))) w.drew := by
  have hc := cellsF w A [.iface 3 (.int .i64 x), .iface 9 (.string s), .iface 3 (.int .i64 y), .iface 3 (.int .i64 z)] 4 rfl (fun j v hj => by
    rcases j with _ | _ | _ | _ | j
    · simp at hj; subst hj; exact h0
    · simp at hj; subst hj; exact h1
    · simp at hj; subst hj; exact h2
    · simp at hj; subst hj; exact h3
    · simp at hj)
  have hr : (FmtStop.readAll "fmt.Sprintf" false [.iface 3 (.int .i64 x), .iface 9 (.string s), .iface 3 (.int .i64 y), .iface 3 (.int .i64 z)] [(0, 100, false), (1, 115, false), (2, 100, false), (3, 100, false)]).run Tryf.prog w = .ok [(shI, dg x), (shS, FmtStop.pack s.data.toList), (shI, dg y), (shI, dg z)] w := by
    simp [FmtStop.readAll, opI, opS, dg]
  have ht := FmtStop.run_text (P := Tryf.prog) F "fmt.Sprintf" [fmt2.data.toList] [(shI, dg x), (shS, FmtStop.pack s.data.toList), (shI, dg y), (shI, dg z)] w hF
  rw [callF, FmtStop.sprintf_lit]
  simp only [Sem.run_bind, guardF, Result.andThen_ok, hc, List.length_cons, List.length_nil, Nat.reduceAdd, p2, hr]
  exact congrArg (fun r => Result.andThen r fun v w' => Result.ok (Next.value v) w') ht
end Go.Proofs.YtjnoodilpffbiaaFmt.Ft
