/- The law FnBinaryOpRefusalInheritedByMapUndefinedError: its walk. For every op and iv the law returns true, where ErrInvalidOperator holds what the row lists. -/
import Derived.Test.YtobmcifdnlnknaaDoorRows
import Derived.WalkKit
import Derived.ProofKit
import Derived.OpenShut
import Derived.WalkLawsBesides
import Derived.WalkSpells
import Derived.Deep.QuietTactic
import Derived.BigQuiet
import Derived.LaidEql
import Derived.LaidMore
import Derived.Stop.LaidErr
import Derived.Stop.Joined
namespace Go.Proofs.YtobmcifdnlnknaaDoor.fnBinaryOpRefusalInheritedByMapUndefinedError
open Go.ChangeShapes Go.WideShapes Go.ChangeAt Go.RowKit
theorem binaryOp (p v : Value) (t : Int) (a : Addr) (w : World) (hg : w.cell? ⟨0, 0, none⟩ = some (.iface 74 (.pointer (some a)))) :
    Calls Tryd.prog 11 #[p, .int .i64 t, v] w fun e w' => e = .returned (.tuple #[.nilIface, .iface 74 (.pointer (some a))]) ∧ ∃ n, w.drewN n = w' := by
  go_enter Tryd.func11, Tryd.ntmps11
  go_wp2
  go_quiet (fail)
  go_wp2
  go_ret2
  exact ⟨rfl, _, rfl⟩
theorem comp74 : (Tryd.prog.info? 74).map (·.comparable) = some true := by kernel_rfl
theorem has100 : (Tryd.prog.info? 100).isSome = true := by kernel_rfl
theorem neq_same (a : Addr) (w : World) : (binOp .neq 31 (.iface 74 (.pointer (some a))) (.iface 74 (.pointer (some a)))).run Tryd.prog w = .ok (.bool false) w := by
  obtain ⟨i, hi, hc⟩ := Option.map_eq_some_iff.1 comp74
  obtain ⟨j, hj⟩ := Option.isSome_iff_exists.1 has100
  simp only [binOp]
  simp [Op.equal, Op.maxDepth, run_equalIn_iface_ptr_same w 9998 a Tryd.underlying31 Tryd.underlying74 hi hc hj]
theorem run_partAt00 {P : Program} {w : World} {b t k : Nat} {cs : Array Value} (hb : w.heap[b]? = some (.cells cs t (0, 0))) (hc : P.cellsOf t = 0 ∨ (P.cellsOf t ≠ 0 ∧ byteOfCell P P.depth t 0 = some k)) :
    (partAt ⟨b, 0, none⟩ 0 0).run P w = .ok ⟨b, 0, none⟩ w := by
  rcases hc with hc | hc
  · simp [partAt, byteOf, noView, viewAt, World.shape?, hb, hc]
  · simp [partAt, byteOf, noView, viewAt, World.shape?, hb, hc.1, hc.2]
theorem part_new {t : Nat} (hc : Tryd.prog.cellsOf t = 0 ∨ (Tryd.prog.cellsOf t ≠ 0 ∧ byteOfCell Tryd.prog Tryd.prog.depth t 0 = some 0)) (u : World) (cs : Array Value) (b : Nat) (hb : b = u.heap.size) :
    (partAt ⟨b, 0, none⟩ 0 0).run Tryd.prog (u.alloc (.cells cs t)) = .ok ⟨b, 0, none⟩ (u.alloc (.cells cs t)) :=
  by
  subst hb
  have hh : (u.alloc (.cells cs t)).heap[u.heap.size]? = some (.cells cs t (0, 0)) := by show (u.heap.push (.cells cs t))[u.heap.size]? = _; simp
  exact run_partAt00 hh hc
theorem part43 (u : World) (cs : Array Value) (b : Nat) (hb : b = u.heap.size) : (partAt ⟨b, 0, none⟩ 0 0).run Tryd.prog (u.alloc (.cells cs 43)) = .ok ⟨b, 0, none⟩ (u.alloc (.cells cs 43)) :=
  part_new (t := 43) (Or.inr ⟨by rw [show Tryd.prog.cellsOf 43 = 1 by kernel_rfl]; decide, by kernel_rfl⟩) u cs b hb
theorem part45 (u : World) (cs : Array Value) (b : Nat) (hb : b = u.heap.size) : (partAt ⟨b, 0, none⟩ 0 0).run Tryd.prog (u.alloc (.cells cs 45)) = .ok ⟨b, 0, none⟩ (u.alloc (.cells cs 45)) :=
  part_new (t := 45) (Or.inr ⟨by rw [show Tryd.prog.cellsOf 45 = 1 by kernel_rfl]; decide, by kernel_rfl⟩) u cs b hb
theorem part48 (u : World) (cs : Array Value) (b : Nat) (hb : b = u.heap.size) : (partAt ⟨b, 0, none⟩ 0 0).run Tryd.prog (u.alloc (.cells cs 48)) = .ok ⟨b, 0, none⟩ (u.alloc (.cells cs 48)) :=
  part_new (t := 48) (Or.inl (by kernel_rfl)) u cs b hb
theorem part51 (u : World) (cs : Array Value) (b : Nat) (hb : b = u.heap.size) : (partAt ⟨b, 0, none⟩ 0 0).run Tryd.prog (u.alloc (.cells cs 51)) = .ok ⟨b, 0, none⟩ (u.alloc (.cells cs 51)) :=
  part_new (t := 51) (Or.inr ⟨by rw [show Tryd.prog.cellsOf 51 = 1 by kernel_rfl]; decide, by kernel_rfl⟩) u cs b hb
theorem zero_below {W : World} {v : Value} {o : Nat} (h : W.cell? ⟨0, o, none⟩ = some v) : 0 < W.heap.size := by
  rcases Nat.eq_zero_or_pos W.heap.size with h0 | h0
  · have : W.heap[0]? = none := by rw [Array.getElem?_eq_none]; omega
    simp [World.cell?, this] at h
  · exact h0
theorem star : "*" ++ "errors.errorString" = "*errors.errorString" := by decide
theorem row74 (u : TypeId) (h : Tryd.prog.typeName? 3 u = some "*errors.errorString") : u = 74 :=
  typeName_ptr_named (nm := "errors.errorString") (by rw [star]; kernel_rfl) (by kernel_rfl) (by decide) u (by rw [star]; exact h)
theorem sentinel {w : World} (hL : laidMetH Tryd.prog Rows.fnBinaryOpRefusalInheritedByMapUndefinedErrorRow.laid w) : ∃ a, w.cell? ⟨0, 0, none⟩ = some (.iface 74 (.pointer (some a))) := by
  rw [MakeChecks.laidMetH_plain _ _ _ (by kernel_rfl)] at hL
  obtain ⟨a, s, hv, _, _, _⟩ := laid_sentinel (g := 0) (ti := 31) (tp := 74) (te := 100) (ts := 9) hL (by kernel_rfl) (by kernel_rfl) Tryd.underlying31 row74 Tryd.underlying74 Tryd.underlying100 rfl rfl Tryd.underlying9 (by kernel_rfl) (by kernel_rfl)
  exact ⟨a, by simpa using World.var?_cell (g := 0) (by kernel_rfl) hv 0⟩
set_option maxHeartbeats 1000000 in
theorem walk (a0 : Int) (a1 : Int) (w : World) (_w0 : (Lit.int .i64 a0).wf = true) (_w1 : (Lit.int .i64 a1).wf = true) (hL : laidMetH Tryd.prog Rows.fnBinaryOpRefusalInheritedByMapUndefinedErrorRow.laid w) :
    Calls Tryd.prog 6 #[.int .i64 a0, .int .i64 a1] w fun e w' => e = .returned (.bool true) ∧ Below w.heap.size w w' := by
  obtain ⟨a, hg⟩ := sentinel hL
  clear hL
  have h0 := zero_below hg
  have hne := neq_same
  have p1 := part43
  have p2 := part45
  have p3 := part48
  have p4 := part51
  go_enter Tryd.func6, Tryd.ntmps6
  go_wp2_with ((go_at_call 11; refine (binaryOp _ _ _ a _ ?_).mono ?_; (focus (go_simp; done)); rintro e w' ⟨rfl, n, rfl⟩))
  go_ret
  exact ⟨rfl, by repeat (first | exact Below.refl _ _ | apply below_drewN | refine Below.alloc ?_ (by simp; try omega) _)⟩
end Go.Proofs.YtobmcifdnlnknaaDoor.fnBinaryOpRefusalInheritedByMapUndefinedError
