/- A Bytes object: more of its methods (Equals, IsFalsy, CanIterate, Iterate). -/
import Derived.Test.YtnjinknpckkioaaObj
import Derived.RegionTactic
import Derived.ChangeAlike
namespace Go.Proofs.Ytnjinknpckkioaa.Fm
open Go.ChangeShapes Go.WideShapes Go.ChangeAt Go.RowKit Go.Fmt

theorem ret_bool {a b : Bool} (h : a = b) : Ending.returned (.bool a) = .returned (.bool b) := by rw [h]
theorem bytesEqual (p q : Option Addr) (c d : Nat) (xs bs : List UInt8) (w : World) (hp : RowAt w p xs.length xs) (hq : RowAt w q bs.length bs) :
    Calls Try.prog 22 #[.slice p xs.length c, .slice q bs.length d] w fun e w' => e = .returned (.bool (decide (xs = bs))) ∧ w = w' := by
  have h1 := row_conv (cap := c) hp
  have h2 := row_conv (cap := d) hq
  clear hp hq
  go_enter Try.func22, Try.ntmps22
  go_wp2
  go_ret
  exact ⟨ret_bool (by rw [Bool.eq_iff_iff]; simp), rfl⟩

theorem ta_bytes (a : Addr) (w : World) : (Instr.typeAssert (.iface 25 (.pointer (some a))) 32 25 true).run Try.prog w = .ok (.tuple #[.pointer (some a), .bool true]) w := by kernel_rfl

set_option maxHeartbeats 1000000 in
theorem bEquals (B C : Nat) (p q : Option Addr) (c d : Nat) (xs bs : List UInt8) (w : World) (h : ByAt w B p c xs) (k : ByAt w C q d bs) :
    Calls Try.prog 15 #[.pointer (some ⟨B, 0, none⟩), .iface 25 (.pointer (some ⟨C, 0, none⟩))] w fun e w' => e = .returned (.bool (decide (xs = bs))) ∧ ∃ n, w.drewN n = w' := by
  have h1 := h.cell
  have h2 := k.cell
  have HR1 := Lib.hid h.row
  have HR2 := Lib.hid k.row
  have ta := ta_bytes
  clear h k
  go_enter Try.func15, Try.ntmps15
  go_wp2
  go_quiet ((go_at_call 22; exact Calls.quiet_of_same ((bytesEqual p q c d xs bs _ (by exact HR1.out) (by exact HR2.out)).mono (fun _ _ h => ⟨h.1, h.2.symm⟩))))
  go_wp2
  go_ret
  exact ⟨rfl, _, rfl⟩

theorem bFalsy (B : Nat) (p : Option Addr) (c : Nat) (bs : List UInt8) (w : World) (h : ByAt w B p c bs) : Calls Try.prog 40 #[.pointer (some ⟨B, 0, none⟩)] w fun e w' => e = .returned (.bool (decide (bs.length = 0))) ∧ w = w' := by
  have h1 := h.cell
  clear h
  go_enter Try.func40, Try.ntmps40
  go_wp2
  go_ret
  exact ⟨ret_bool (by rw [Bool.eq_iff_iff]; simp), rfl⟩

theorem bCan (v : Value) (w : World) : Calls Try.prog 13 #[v] w fun e w' => e = .returned (.bool true) ∧ w = w' := by
  go_enter Try.func13, Try.ntmps13
  go_wp2
  go_ret
  exact ⟨rfl, rfl⟩

/-- A new iterator. -/
def NewIter (w : World) (e : Ending) (w' : World) : Prop := ∃ v, e = .returned (.iface 53 v) ∧ Below w.heap.size w w'
set_option maxHeartbeats 1000000 in
theorem bIter (B : Nat) (p : Option Addr) (c : Nat) (bs : List UInt8) (w : World) (h : ByAt w B p c bs) : Calls Try.prog 14 #[.pointer (some ⟨B, 0, none⟩)] w (NewIter w) := by
  have h1 := h.cell
  clear h
  go_enter Try.func14, Try.ntmps14
  go_wp2
  go_region
  all_goals
    go_wp2
    go_ret
    exact ⟨_, rfl, by repeat (first | exact Below.refl _ _ | apply below_drewN | refine Below.alloc ?_ (by simp) _ | refine Below.drew ?_)⟩
theorem m_falsy (a : Addr) (w : World) : (method 236 25 (.pointer (some a)) "IsFalsy").run Try.prog w = .ok (40, .pointer (some a)) w := by kernel_rfl
theorem m_equals (a : Addr) (w : World) : (method 236 25 (.pointer (some a)) "Equals").run Try.prog w = .ok (15, .pointer (some a)) w := by kernel_rfl
theorem m_can (a : Addr) (w : World) : (method 236 25 (.pointer (some a)) "CanIterate").run Try.prog w = .ok (13, .pointer (some a)) w := by kernel_rfl
theorem m_iter (a : Addr) (w : World) : (method 236 25 (.pointer (some a)) "Iterate").run Try.prog w = .ok (14, .pointer (some a)) w := by kernel_rfl
end Go.Proofs.Ytnjinknpckkioaa.Fm
