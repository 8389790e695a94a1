/- The law FnLoopStackFollowsScript: its walk, at whatever input. -/
import Derived.Test.YtiohjlnebeifaaaFmtLsLaw
namespace Go.Proofs.YtiohjlnebeifaaaFmt.Lp
open Go.ChangeShapes Go.WideShapes Go.ChangeAt Go.RowKit Go.Nest Go.Fmt Go.Proofs.YtiohjlnebeifaaaFmt.Fm

set_option maxRecDepth 100000 in
set_option maxHeartbeats 1000000 in
theorem loopLaw (p : Option Addr) (cap : Nat) (os : List UInt8) (w : World) (hr : RowAt w p os.length os) (hc : p = none → cap = 0) (hs : os.length ≤ 140737488351232) :
    Calls Tryf.prog 3 #[.slice p os.length cap] w fun e w' => e = .returned (.bool true) ∧ Below w.heap.size w w' := by
  by_cases h1 : 1048576 < os.length
  · have hd := guardLoop p os.length cap false w hs (by simp; omega)
    clear hr hc hs h1
    go_enter Tryf.func3, Tryf.ntmps3
    go_wp2_with (fail)
    refine hd.mono ?_
    rintro e w' ⟨rfl, rfl⟩
    go_wp2
    go_ret
    exact ⟨rfl, Below.refl _ _⟩
  by_cases h2 : 4096 < os.length
  · have hd := guardLoop p os.length cap true w hs (by simp; omega)
    have hI : decide ((4096 : Int) < (os.length : Int)) = true := by simp; omega
    clear hr hc hs h1
    go_enter Tryf.func3, Tryf.ntmps3
    go_wp2_with (fail)
    refine hd.mono ?_
    rintro e w' ⟨rfl, rfl⟩
    go_wp2
    go_ret
    exact ⟨rfl, Below.refl _ _⟩
  exact loopMain p cap os w hr hc (by omega)
end Go.Proofs.YtiohjlnebeifaaaFmt.Lp
namespace Go.Proofs.YtiohjlnebeifaaaFmt
theorem fnLoopStackFollowsScript.walk (a0 : Option Addr) (len0 cap0 : Nat) (z0 : List Int) (w : World) (w0 : LawFrame.IsRow .u8 1 w a0 len0 cap0 z0) :
    Calls Tryf.prog 3 #[.slice a0 len0 cap0] w fun e w' => e = .returned (.bool true) ∧ RowKit.Below w.heap.size w w' := by
  obtain ⟨bs, h1, h2, _, h4⟩ := Go.Fmt.rowAt_of w0
  obtain rfl := h1.len
  exact Lp.loopLaw a0 cap0 bs w h1 h2 h4
end Go.Proofs.YtiohjlnebeifaaaFmt
