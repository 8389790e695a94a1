/- The law FnFormatInstructionsSplitsAtBoundary: its walk, at whatever input. -/
import Derived.Test.YtjnoodilpffbiaaFmtSplL
namespace Go.Proofs.YtjnoodilpffbiaaFmt.Ft
open Go.ChangeShapes Go.WideShapes Go.ChangeAt Go.RowKit Go.Blk Go.Mk Go.LawFrame Go.Extern.Stop Go.Stop Go.Proofs.YtjnoodilpffbiaaFmt.Mk Go.Fmt Go.Proofs.YtjnoodilpffbiaaFmt.Fm

set_option maxRecDepth 100000 in
set_option maxHeartbeats 4000000 in
theorem splLaw (F : Interp) (nm : Nat → ByteArray) (p p2 pa : Option Addr) (c cc ca : Nat) (os os2 : List UInt8) (xs : List Int) (z : Int) (w : World) (hF : F.answers w.tape) (hq : RowAt w p os.length os) (hc : p = none → c = 0) (hq2 : RowAt w p2 os2.length os2) (hc2 : p2 = none → cc = 0) (hx : Row64 w pa xs) (hcx : pa = none → ca = 0)
    (h1 : os.length ≤ 140737488351232) (h1' : os2.length ≤ 140737488351232) (h2 : xs.length ≤ 140737488351232) (ht : Tabs w nm) :
    Calls Tryf.prog 4 #[.slice p os.length c, .slice p2 os2.length cc, .slice pa xs.length ca, .int .i64 z] w fun e w' => e = .returned (.bool true) ∧ Below w.heap.size w w' := by
  by_cases g1 : os.length + os2.length + xs.length ≤ 1048576
  · have HG := Lib.hid (guardSpl p p2 pa os.length c os2.length cc xs.length ca z true w (by omega) (by omega) (by omega) (by simp; omega))
    by_cases g2 : os.length + os2.length + 8 * xs.length ≤ 1048576
    · by_cases g3 : os.length ≤ 65536
      · by_cases g4 : os2.length ≤ 65536
        · by_cases g5 : xs.length ≤ 65536
          · exact splMain F nm p p2 pa c cc ca os os2 xs z w hF hq hc hq2 hc2 hx hcx g3 g4 g5 g2 ht
          · have e1 : (os.length : Int) + (os2.length : Int) + 8 * (xs.length : Int) ≤ 1048576 := by omega
            have e2 : (os.length : Int) ≤ 65536 := by omega
            have e3 : (os2.length : Int) ≤ 65536 := by omega
            have e4 : (65536 : Int) < (xs.length : Int) := by omega
            clear hF hq hc hq2 hc2 hx hcx ht g1 g2 g3 g4 g5
            go_enter Tryf.func4, Tryf.ntmps4
            go_wp2_with (fail)
            refine HG.out.mono ?_
            rintro e w' ⟨rfl, rfl⟩
            go_wp2
            go_ret
            exact ⟨rfl, Below.refl _ _⟩
        · have e1 : (os.length : Int) + (os2.length : Int) + 8 * (xs.length : Int) ≤ 1048576 := by omega
          have e2 : (os.length : Int) ≤ 65536 := by omega
          have e3 : (65536 : Int) < (os2.length : Int) := by omega
          clear hF hq hc hq2 hc2 hx hcx ht g1 g2 g3 g4
          go_enter Tryf.func4, Tryf.ntmps4
          go_wp2_with (fail)
          refine HG.out.mono ?_
          rintro e w' ⟨rfl, rfl⟩
          go_wp2
          go_ret
          exact ⟨rfl, Below.refl _ _⟩
      · have e1 : (os.length : Int) + (os2.length : Int) + 8 * (xs.length : Int) ≤ 1048576 := by omega
        have e2 : (65536 : Int) < (os.length : Int) := by omega
        clear hF hq hc hq2 hc2 hx hcx ht g1 g2 g3
        go_enter Tryf.func4, Tryf.ntmps4
        go_wp2_with (fail)
        refine HG.out.mono ?_
        rintro e w' ⟨rfl, rfl⟩
        go_wp2
        go_ret
        exact ⟨rfl, Below.refl _ _⟩
    · have e1 : (1048576 : Int) < (os.length : Int) + (os2.length : Int) + 8 * (xs.length : Int) := by omega
      have k1 : (os.length : Int) ≤ 1048576 := by omega
      have k2 : (os2.length : Int) ≤ 1048576 := by omega
      have k3 : (xs.length : Int) ≤ 1048576 := by omega
      clear hF hq hc hq2 hc2 hx hcx ht g1 g2
      go_enter Tryf.func4, Tryf.ntmps4
      go_wp2_with (fail)
      refine HG.out.mono ?_
      rintro e w' ⟨rfl, rfl⟩
      go_wp2
      go_ret
      exact ⟨rfl, Below.refl _ _⟩
  · have HG := Lib.hid (guardSpl p p2 pa os.length c os2.length cc xs.length ca z false w h1 h1' h2 (by simpa using g1))
    clear hF hq hc hq2 hc2 hx hcx ht g1
    go_enter Tryf.func4, Tryf.ntmps4
    go_wp2_with (fail)
    refine HG.out.mono ?_
    rintro e w' ⟨rfl, rfl⟩
    go_wp2
    go_ret
    exact ⟨rfl, Below.refl _ _⟩
end Go.Proofs.YtjnoodilpffbiaaFmt.Ft
namespace Go.Proofs.YtjnoodilpffbiaaFmt
open Go.Stop Go.Extern.Stop
theorem fnFormatInstructionsSplitsAtBoundary.walk (a0 : Option Addr) (len0 cap0 : Nat) (z0 : List Int) (a1 : Option Addr) (len1 cap1 : Nat) (z1 : List Int) (a2 : Option Addr) (len2 cap2 : Nat) (z2 : List Int) (a3 : Int) (w : World) (w0 : LawFrame.IsRow .u8 1 w a0 len0 cap0 z0) (w1 : LawFrame.IsRow .u8 1 w a1 len1 cap1 z1) (w2 : LawFrame.IsRow .i64 8 w a2 len2 cap2 z2) (_w3 : (Lit.int .i64 a3).wf = true) (F : Interp) (hF : F.answers w.tape) (hL : laidMetH Tryf.prog Rows.fnFormatInstructionsSplitsAtBoundaryRow.laid w) :
    Calls Tryf.prog 4 #[.slice a0 len0 cap0, .slice a1 len1 cap1, .slice a2 len2 cap2, .int .i64 a3] w fun e w' => e = .returned (.bool true) ∧ RowKit.Below w.heap.size w w' := by
  obtain ⟨bs, h1, h2, _, h4⟩ := Go.Fmt.rowAt_of w0
  obtain rfl := h1.len
  obtain ⟨bs2, i1, i2, _, i4⟩ := Go.Fmt.rowAt_of w1
  obtain rfl := i1.len
  obtain ⟨xs, g1, rfl, g3, g4⟩ := Ft.row64_of w2
  obtain ⟨nm, ht⟩ := Ft.tabs_of hL rfl
  exact Ft.splLaw F nm a0 a1 a2 cap0 cap1 cap2 bs bs2 xs a3 w hF h1 h2 i1 i2 g1 g3 h4 i4 g4 ht
end Go.Proofs.YtjnoodilpffbiaaFmt
