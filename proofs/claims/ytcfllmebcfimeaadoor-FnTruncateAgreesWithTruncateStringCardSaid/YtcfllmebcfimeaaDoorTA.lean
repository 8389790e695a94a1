/- The law FnTruncateAgreesWithTruncateString: its walk. -/
import Derived.Test.YtcfllmebcfimeaaDoorBs
namespace Go.Proofs.YtcfllmebcfimeaaDoor.Fm
open Go.ChangeShapes Go.WideShapes Go.ChangeAt Go.RowKit Go.Fmt

set_option maxHeartbeats 1000000 in
theorem guardTA (p : Option Addr) (l c : Nat) (v1 v2 : Value) (w : World) (h1 : l ≤ 140737488351232) :
    Calls Tryd.prog 24 #[.slice p l c, v1, v2] w fun e w' => e = .returned (.bool (decide (l ≤ 1048576))) ∧ w = w' := by
  by_cases a1 : l ≤ 1048576
  all_goals
    go_enter Tryd.func24, Tryd.ntmps24
    go_wp2
    go_ret
    exact ⟨by simp [a1], rfl⟩

set_option maxRecDepth 100000 in
set_option maxHeartbeats 2000000 in
theorem taMain (p : Option Addr) (cap : Nat) (bs : List UInt8) (prec : Int) (pp : Bool) (w : World) (hr : RowAt w p bs.length bs) (hc : p = none → cap = 0) (hs : bs.length ≤ 65536) (hi : I64 prec) (hT : Lib.Utf8Tabs 2 3 w) :
    Calls Tryd.prog 7 #[.slice p bs.length cap, .int .i64 prec, .bool pp] w fun e w' => e = .returned (.bool true) ∧ Below w.heap.size w w' := by
  have h2 : 2 < w.heap.size := World.block_lt_of_cell? w ⟨2, 0, none⟩ (hT.1 0 (by omega))
  have h3 : 3 < w.heap.size := World.block_lt_of_cell? w ⟨3, 0, none⟩ (hT.2 0 (by omega)).1
  have HGD := Lib.hid (decide_eq_true (show bs.length ≤ 1048576 by omega))
  have HCl := Lib.hid (zzClone2 p bs.length cap bs w hr (by omega) hc)
  have HT := Lib.hid hT
  have HI := Lib.hid hi
  clear hr hc hT hi
  go_enter Tryd.func7, Tryd.ntmps7
  go_wp2_with (fail)
  refine (guardTA _ _ _ _ _ w (by omega)).mono ?_
  rintro e w' ⟨rfl, rfl⟩
  rw [HGD.out]
  go_wp2_with (fail)
  refine HCl.out.mono ?_
  intro e w1 hcp
  obtain ⟨q1, c1, rfl, hC1, hq1, hb1⟩ := cpy_of hcp
  have s1 := hb1.size
  have HC1 := Lib.hid hC1
  have HQ1 := Lib.hid hq1
  have HT1 := Lib.hid (tabs_below hb1 h2 h3 HT.out)
  clear hcp hC1 hq1
  have hM1 : 0 < w1.heap.size := by omega
  go_wp2_with (fail)
  refine (newF2 ⟨false, pp, false, false, false, false, false, 0, prec⟩ false 0 pp prec false false false false false rfl w1 hM1).mono ?_
  rintro e w2 ⟨rfl, hL2, hb2, hz2, hc2⟩
  have s2 := hb2.size
  have HF2 := Lib.hid hL2.fmt
  clear hL2 hz2 hc2
  have HT2 := Lib.hid (tabs_below hb2 (by omega) (by omega) HT1.out)
  have HC2 := Lib.hid (HC1.out.old hb2)
  go_wp2_with (fail)
  refine (zzTR _ _ _ q1 c1 bs w2 HF2.out HI.out HC2.out (by omega) HT2.out (by omega) (by omega)).mono ?_
  rintro e w3 ⟨rfl, hb3⟩
  have hF2w : w1.heap.size + 1 < w2.heap.size := World.block_lt_of_cell? w2 _ HF2.out.buf
  have HF3 := Lib.hid (HF2.out.below hb3 hF2w)
  have HC3 := Lib.hid (HC2.out.old hb3)
  have hcv1 := row_conv (cap := c1) HC3.out.row
  obtain ⟨X, hX⟩ : ∃ X, X = cutB pp prec (sOf bs) := ⟨_, rfl⟩
  have HX := Lib.hid hX
  have HCX := Lib.hid (HC3.out.cut pp prec)
  rw [← hX] at HCX
  have HS := Lib.hid (zzTRS _ _ _ (sOf bs) w3 HF3.out HI.out)
  go_wp2_with (fail)
  refine HS.out.mono ?_
  rintro e w4 ⟨t, rfl, ht, hb4⟩
  have htt : t = sOf X := by
    have e1 : t.data.toList = X := by rw [hX]; exact ht
    cases t
    rw [← e1]
    rfl
  subst htt
  have hcv2 := row_conv (cap := c1) (HCX.out.old hb4).row
  have hXX : Hid ((cutB pp prec (sOf bs)).length = X.length) := Lib.hid (by rw [hX])
  clear ht hX hcv1 HS
  first | rw [hXX.out] | skip
  go_wp2
  go_ret
  have h02 := hb1.trans (hb2.mono s1)
  have h03 := h02.trans (hb3.mono h02.size)
  exact ⟨rfl, h03.trans (hb4.mono h03.size)⟩

set_option maxRecDepth 100000 in
theorem taLaw (p : Option Addr) (cap : Nat) (bs : List UInt8) (prec : Int) (pp : Bool) (w : World) (hr : RowAt w p bs.length bs) (hc : p = none → cap = 0) (hs : bs.length ≤ 140737488351232) (hi : I64 prec) (hT : Lib.Utf8Tabs 2 3 w) :
    Calls Tryd.prog 7 #[.slice p bs.length cap, .int .i64 prec, .bool pp] w fun e w' => e = .returned (.bool true) ∧ Below w.heap.size w w' := by
  by_cases c1 : bs.length ≤ 1048576
  · by_cases c2 : bs.length ≤ 65536
    · exact taMain p cap bs prec pp w hr hc c2 hi hT
    · have HGD := Lib.hid (decide_eq_true c1)
      clear hr hc hT hi
      go_enter Tryd.func7, Tryd.ntmps7
      go_wp2_with (fail)
      refine (guardTA _ _ _ _ _ w hs).mono ?_
      rintro e w' ⟨rfl, rfl⟩
      rw [HGD.out]
      go_wp2
      go_ret
      exact ⟨rfl, Below.refl _ _⟩
  · have HGD := Lib.hid (decide_eq_false c1)
    clear c1
    clear hr hc hT hi
    go_enter Tryd.func7, Tryd.ntmps7
    go_wp2_with (fail)
    refine (guardTA _ _ _ _ _ w hs).mono ?_
    rintro e w' ⟨rfl, rfl⟩
    rw [HGD.out]
    go_wp2
    go_ret
    exact ⟨rfl, Below.refl _ _⟩
end Go.Proofs.YtcfllmebcfimeaaDoor.Fm
namespace Go.Proofs.YtcfllmebcfimeaaDoor
open Go.Proofs.YtcfllmebcfimeaaDoor.Fm
theorem fnTruncateAgreesWithTruncateString.walk (a0 : Option Addr) (len0 cap0 : Nat) (z0 : List Int) (a1 : Int) (a2 : Bool) (w : World) (w0 : LawFrame.IsRow .u8 1 w a0 len0 cap0 z0) (w1 : (Lit.int .i64 a1).wf = true) (hL : laidMetH Tryd.prog Rows.fnTruncateAgreesWithTruncateStringRow.laid w) :
    Calls Tryd.prog 7 #[.slice a0 len0 cap0, .int .i64 a1, .bool a2] w fun e w' => e = .returned (.bool true) ∧ RowKit.Below w.heap.size w w' := by
  obtain ⟨bs, hr, hc, _, hsz⟩ := Go.Fmt.rowAt_of w0
  obtain rfl := hr.len
  rw [MakeChecks.laidMetH_plain _ _ _ (by kernel_rfl)] at hL
  exact taLaw a0 cap0 bs a1 a2 w hr hc hsz (i64_of w1) (tabs_laid hL (by simp [Rows.fnTruncateAgreesWithTruncateStringRow]) (by simp [Rows.fnTruncateAgreesWithTruncateStringRow]))
end Go.Proofs.YtcfllmebcfimeaaDoor
