/- The law FnBytesTypeNameFixed: its walk. -/
import Derived.Test.YtnjinknpckkioaaObj
namespace Go.Proofs.Ytnjinknpckkioaa.Fm
open Go.ChangeShapes Go.WideShapes Go.ChangeAt Go.RowKit Go.Fmt

set_option maxHeartbeats 1000000 in
theorem guardTN (p : Option Addr) (l c : Nat) (w : World) (hsz : l ≤ 140737488351232) : Calls Try.prog 7 #[.slice p l c] w fun e w' => e = .returned (.bool (decide (l ≤ 1048576))) ∧ w = w' := by
  by_cases h : l ≤ 1048576
  all_goals
    go_enter Try.func7, Try.ntmps7
    go_wp2
    go_ret
    exact ⟨by simp [h], rfl⟩

set_option maxRecDepth 100000 in
set_option maxHeartbeats 2000000 in
theorem tnLaw (p : Option Addr) (cap : Nat) (bs : List UInt8) (w : World) (hr : RowAt w p bs.length bs) (hc : p = none → cap = 0) (hsz : bs.length ≤ 140737488351232) :
    Calls Try.prog 3 #[.slice p bs.length cap] w fun e w' => e = .returned (.bool true) ∧ Below w.heap.size w w' := by
  by_cases hs : bs.length ≤ 1048576
  · have HG := Lib.hid (decide_eq_true hs)
    have HC := Lib.hid (zzClone p bs.length cap bs w hr hs hc)
    have hm := m_name
    clear hr hc
    go_enter Try.func3, Try.ntmps3
    go_wp2_with (fail)
    refine (guardTN _ _ _ _ hsz).mono ?_
    rintro e w' ⟨rfl, rfl⟩
    rw [HG.out]
    go_wp2_with (fail)
    refine HC.out.mono ?_
    intro e w1 hcp
    obtain ⟨q, c, rfl, hrow, hnil, hb1⟩ := clone_use hcp
    have hBy := boxed hrow hnil
    have hcv := row_conv (cap := c) hrow
    have hP := Lib.hid (bCopy _ _ _ _ _ hBy (by omega))
    have HCV := Lib.hid (fun w' (hb : Below w1.heap.size w1 w') => row_conv (cap := c) (hrow.old hb))
    clear hcp hBy hrow hnil hcv
    go_wp2_with ((go_at_call 9; refine (bName _ _).mono ?_; rintro e w' ⟨rfl, rfl⟩))
    refine hP.out.mono ?_
    rintro e w3 ⟨B, p3, cap3, rfl, h1, h2, h3, h4, hb3⟩
    have hb13 : Below w1.heap.size w1 w3 := ((Below.refl _ w1).alloc (Nat.le_refl _) _).trans (hb3.mono (by simp))
    have hcv := HCV.out w3 hb13
    clear h1 h2 h3 h4
    go_wp2_with ((go_at_call 9; refine (bName _ _).mono ?_; rintro e w' ⟨rfl, rfl⟩))
    go_wp2
    go_ret
    exact ⟨rfl, hb1.trans ((hb13.alloc (by have := hb13.size; omega) _).mono hb1.size)⟩
  · have HG := Lib.hid (decide_eq_false hs)
    clear hr hc
    go_enter Try.func3, Try.ntmps3
    go_wp2_with (fail)
    refine (guardTN _ _ _ _ hsz).mono ?_
    rintro e w' ⟨rfl, rfl⟩
    rw [HG.out]
    go_wp2
    go_ret
    exact ⟨rfl, Below.refl _ _⟩
end Go.Proofs.Ytnjinknpckkioaa.Fm
namespace Go.Proofs.Ytnjinknpckkioaa
open Go.Proofs.Ytnjinknpckkioaa.Fm
theorem fnBytesTypeNameFixed.walk (a0 : Option Addr) (len0 cap0 : Nat) (z0 : List Int) (w : World) (w0 : LawFrame.IsRow .u8 1 w a0 len0 cap0 z0) :
    Calls Try.prog 3 #[.slice a0 len0 cap0] w fun e w' => e = .returned (.bool true) ∧ RowKit.Below w.heap.size w w' := by
  obtain ⟨bs, hr, hc, _, hsz⟩ := Go.Fmt.rowAt_of w0
  obtain rfl := hr.len
  exact tnLaw a0 cap0 bs w hr hc hsz
end Go.Proofs.Ytnjinknpckkioaa
