/- The law FnFormatInstructionsOneLinePerInstruction: its walk, whole. -/
import Derived.Test.YtjnoodilpffbiaaFmtOne
import Derived.Test.YtjnoodilpffbiaaFmtRow2
namespace Go.Proofs.YtjnoodilpffbiaaFmt.Ft
open Go.ChangeShapes Go.WideShapes Go.ChangeAt Go.RowKit Go.Blk Go.Mk Go.LawFrame Go.Extern.Stop Go.Stop Go.Proofs.YtjnoodilpffbiaaFmt.Mk Go.Fmt Go.Proofs.YtjnoodilpffbiaaFmt.Fm

set_option maxHeartbeats 1000000 in
theorem guardOne (p q : Option Addr) (l c m d : Nat) (z : Int) (b : Bool) (w : World) (hsz : l ≤ 140737488351232) (hsz2 : m ≤ 140737488351232) (hb : decide (l ≤ 1048576 ∧ m ≤ 1048576 ∧ l + m ≤ 1048576) = b) :
    Calls Tryf.prog 5 #[.slice p l c, .slice q m d, .int .i64 z] w fun e w' => e = .returned (.bool b) ∧ w = w' := by
  subst hb
  by_cases h : l ≤ 1048576
  · by_cases h2 : m ≤ 1048576
    · by_cases h3 : l + m ≤ 1048576
      · have h3' : (l : Int) + (m : Int) ≤ 1048576 := by omega
        go_enter Tryf.func5, Tryf.ntmps5
        go_wp2
        go_ret
        exact ⟨by simp [h, h2, h3], rfl⟩
      · have h3' : (1048576 : Int) < (l : Int) + (m : Int) := by omega
        go_enter Tryf.func5, Tryf.ntmps5
        go_wp2
        go_ret
        exact ⟨by simp [h3], rfl⟩
    · go_enter Tryf.func5, Tryf.ntmps5
      go_wp2
      go_ret
      exact ⟨by simp [h2], rfl⟩
  · go_enter Tryf.func5, Tryf.ntmps5
    go_wp2
    go_ret
    exact ⟨by simp [h], rfl⟩
theorem copy_of {w w1 : World} {p : Option Addr} {bs : List UInt8} {e : Ending} (h : CopyOf w p bs e w1) : ∃ q c, e = .returned (.slice q bs.length c) ∧ RowAt w1 q bs.length bs ∧ (q = none → c = 0) ∧ Below w.heap.size w w1 := by
  rcases h with ⟨rfl, rfl, rfl, rfl⟩ | ⟨g, rfl, hown, hb⟩
  · exact ⟨none, 0, rfl, .inl ⟨rfl, rfl, rfl⟩, fun _ => rfl, Below.refl _ _⟩
  · exact ⟨some ⟨g, 0, none⟩, _, rfl, RowAt.of_own hown, (fun h => by cases h), hb⟩

set_option maxRecDepth 100000 in
set_option maxHeartbeats 2000000 in
theorem oneMain (F : Interp) (nm : Nat → ByteArray) (p pa : Option Addr) (c ca : Nat) (os : List UInt8) (xs : List Int) (z : Int) (w : World) (hF : F.answers w.tape) (hq : RowAt w p os.length os) (hc : p = none → c = 0) (hx : Row64 w pa xs) (hcx : pa = none → ca = 0)
    (h1 : os.length ≤ 65536) (h2 : xs.length ≤ 65536) (h3 : os.length + 8 * xs.length ≤ 1048576) (ht : Tabs w nm) :
    Calls Tryf.prog 3 #[.slice p os.length c, .slice pa xs.length ca, .int .i64 z] w fun e w' => e = .returned (.bool true) ∧ Below w.heap.size w w' := by
  have HG := Lib.hid (guardOne p pa os.length c xs.length ca z true w (by omega) (by omega) (by simp; omega))
  have HS := Lib.hid (tabSane w ht.1)
  have HC := Lib.hid (zzClone p os.length c os w hq (by omega) hc)
  have HX := Lib.hid hx
  have HT := Lib.hid ht
  have HF := Lib.hid hF
  have HCX := Lib.hid hcx
  have e1 : (os.length : Int) + 8 * (xs.length : Int) ≤ 1048576 := by omega
  have e2 : (os.length : Int) ≤ 65536 := by omega
  have e3 : (xs.length : Int) ≤ 65536 := by omega
  clear hF hq hc hx hcx ht
  go_enter Tryf.func3, Tryf.ntmps3
  go_wp2_with (fail)
  refine HG.out.mono ?_
  rintro e w' ⟨rfl, rfl⟩
  go_wp2_with (fail)
  refine HS.out.mono ?_
  rintro e w' ⟨rfl, rfl⟩
  go_wp2_with (fail)
  refine HC.out.mono ?_
  intro e w1 hcp
  obtain ⟨q, c1, rfl, hr1, hq1, hb1⟩ := copy_of hcp
  have HX1 := Lib.hid (clone64 pa ca xs w1 (HX.out.old hb1) (by omega) HCX.out)
  have HR1 := Lib.hid hr1
  have HB1 := Lib.hid hb1
  clear hcp hr1 hq1 hb1 HG HS HC
  go_wp2_with (fail)
  refine HX1.out.mono ?_
  rintro e w2 ⟨q2, c2, rfl, hr2, hb2⟩
  have hb12 : Below w.heap.size w w2 := HB1.out.trans (hb2.mono HB1.out.size)
  have HASM : Hid (Calls Tryf.prog 9 #[.slice q os.length c1, .slice q2 xs.length c2, .int .i64 0] w2 (AsmOf w2 os.length 0)) := Lib.hid (asm os xs 0 q q2 c1 c2 w2 (HR1.out.old hb2) hr2 (by omega) (by omega) (by omega) (HT.out.old hb12).1)
  have HB2 := Lib.hid hb12
  clear hr2 hb2 hb12 HX1
  go_wp2_with (fail)
  refine HASM.out.mono ?_
  rintro e w3 ⟨insts, v, nx, rfl, hn, hI, hfl, _, hown, hb3⟩
  have hb13 : Below w.heap.size w w3 := HB2.out.trans (hb3.mono HB2.out.size)
  have HFM := Lib.hid (fmtV F nm insts hI z v _ w3 (by rw [hb13.tape]; exact HF.out) hown (by omega) (by omega) (HT.out.old hb13))
  have HN := Lib.hid hn
  have HB3 := Lib.hid hb13
  clear hn hI hfl hown hb3 hb13 HASM
  go_wp2_with (fail)
  refine HFM.out.mono ?_
  rintro e w4 ⟨q4, c4, rfl, _, hb4⟩
  have HB4 := Lib.hid (HB3.out.trans (hb4.mono HB3.out.size))
  rw [HN.out]
  clear hb4 HFM
  go_wp2
  go_ret
  exact ⟨by simp, HB4.out⟩
set_option maxRecDepth 100000 in
set_option maxHeartbeats 2000000 in
theorem oneLaw (F : Interp) (nm : Nat → ByteArray) (p pa : Option Addr) (c ca : Nat) (os : List UInt8) (xs : List Int) (z : Int) (w : World) (hF : F.answers w.tape) (hq : RowAt w p os.length os) (hc : p = none → c = 0) (hx : Row64 w pa xs) (hcx : pa = none → ca = 0)
    (h1 : os.length ≤ 140737488351232) (h2 : xs.length ≤ 140737488351232) (ht : Tabs w nm) :
    Calls Tryf.prog 3 #[.slice p os.length c, .slice pa xs.length ca, .int .i64 z] w fun e w' => e = .returned (.bool true) ∧ Below w.heap.size w w' := by
  by_cases g1 : os.length ≤ 1048576 ∧ xs.length ≤ 1048576 ∧ os.length + xs.length ≤ 1048576
  · have HG := Lib.hid (guardOne p pa os.length c xs.length ca z true w (by omega) (by omega) (by simp; omega))
    by_cases g2 : os.length + 8 * xs.length ≤ 1048576
    · by_cases g3 : os.length ≤ 65536
      · by_cases g4 : xs.length ≤ 65536
        · exact oneMain F nm p pa c ca os xs z w hF hq hc hx hcx g3 g4 g2 ht
        · have e1 : (os.length : Int) + 8 * (xs.length : Int) ≤ 1048576 := by omega
          have e2 : (os.length : Int) ≤ 65536 := by omega
          have e3 : (65536 : Int) < (xs.length : Int) := by omega
          clear hF hq hc hx hcx ht g1 g2 g3 g4
          go_enter Tryf.func3, Tryf.ntmps3
          go_wp2_with (fail)
          refine HG.out.mono ?_
          rintro e w' ⟨rfl, rfl⟩
          go_wp2
          go_ret
          exact ⟨rfl, Below.refl _ _⟩
      · have e1 : (os.length : Int) + 8 * (xs.length : Int) ≤ 1048576 := by omega
        have e2 : (65536 : Int) < (os.length : Int) := by omega
        clear hF hq hc hx hcx ht g1 g2 g3
        go_enter Tryf.func3, Tryf.ntmps3
        go_wp2_with (fail)
        refine HG.out.mono ?_
        rintro e w' ⟨rfl, rfl⟩
        go_wp2
        go_ret
        exact ⟨rfl, Below.refl _ _⟩
    · have e1 : (1048576 : Int) < (os.length : Int) + 8 * (xs.length : Int) := by omega
      have e4 : (os.length : Int) ≤ 1048576 := by omega
      have e5 : (xs.length : Int) ≤ 1048576 := by omega
      clear hF hq hc hx hcx ht g1 g2
      go_enter Tryf.func3, Tryf.ntmps3
      go_wp2_with (fail)
      refine HG.out.mono ?_
      rintro e w' ⟨rfl, rfl⟩
      go_wp2
      go_ret
      exact ⟨rfl, Below.refl _ _⟩
  · have HG := Lib.hid (guardOne p pa os.length c xs.length ca z false w h1 h2 (by simpa using g1))
    clear hF hq hc hx hcx ht g1
    go_enter Tryf.func3, Tryf.ntmps3
    go_wp2_with (fail)
    refine HG.out.mono ?_
    rintro e w' ⟨rfl, rfl⟩
    go_wp2
    go_ret
    exact ⟨rfl, Below.refl _ _⟩
end Go.Proofs.YtjnoodilpffbiaaFmt.Ft
namespace Go.Proofs.YtjnoodilpffbiaaFmt
open Go.Stop Go.Extern.Stop
theorem fnFormatInstructionsOneLinePerInstruction.walk (a0 : Option Addr) (len0 cap0 : Nat) (z0 : List Int) (a1 : Option Addr) (len1 cap1 : Nat) (z1 : List Int) (a2 : Int) (w : World) (w0 : LawFrame.IsRow .u8 1 w a0 len0 cap0 z0) (w1 : LawFrame.IsRow .i64 8 w a1 len1 cap1 z1) (_w2 : (Lit.int .i64 a2).wf = true) (F : Interp) (hF : F.answers w.tape) (hL : laidMetH Tryf.prog Rows.fnFormatInstructionsOneLinePerInstructionRow.laid w) :
    Calls Tryf.prog 3 #[.slice a0 len0 cap0, .slice a1 len1 cap1, .int .i64 a2] w fun e w' => e = .returned (.bool true) ∧ RowKit.Below w.heap.size w w' := by
  obtain ⟨bs, h1, h2, _, h4⟩ := Go.Fmt.rowAt_of w0
  obtain rfl := h1.len
  obtain ⟨xs, g1, rfl, g3, g4⟩ := Ft.row64_of w1
  obtain ⟨nm, ht⟩ := Ft.tabs_of hL rfl
  exact Ft.oneLaw F nm a0 a1 cap0 cap1 bs xs a2 w hF h1 h2 g1 g3 h4 g4 ht
end Go.Proofs.YtjnoodilpffbiaaFmt
