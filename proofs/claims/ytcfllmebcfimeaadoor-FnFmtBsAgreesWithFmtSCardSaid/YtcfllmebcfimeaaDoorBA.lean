/- The law FnFmtBsAgreesWithFmtS: its walk. -/
import Derived.Test.YtcfllmebcfimeaaDoorBs
namespace Go.Proofs.YtcfllmebcfimeaaDoor.Fm
open Go.ChangeShapes Go.WideShapes Go.ChangeAt Go.RowKit Go.Fmt

set_option maxHeartbeats 1000000 in
theorem guardBA (p : Option Addr) (l c : Nat) (v1 v2 v3 v4 v5 v6 : Value) (w : World) (h1 : l ≤ 140737488351232) :
    Calls Tryd.prog 29 #[.slice p l c, v1, v2, v3, v4, v5, v6] w fun e w' => e = .returned (.bool (decide (l ≤ 1048576))) ∧ w = w' := by
  by_cases a1 : l ≤ 1048576
  all_goals
    go_enter Tryd.func29, Tryd.ntmps29
    go_wp2
    go_ret
    exact ⟨by simp [a1], rfl⟩

set_option maxRecDepth 100000 in
set_option maxHeartbeats 2000000 in
theorem baMain (p : Option Addr) (cap : Nat) (bs : List UInt8) (wid prec : Int) (wp pp mi ze : Bool) (w : World) (hg1 : w.cell? ⟨0, 0, none⟩ = some (.int .i64 2147483647)) (hr : RowAt w p bs.length bs) (hc : p = none → cap = 0) (hs : bs.length ≤ 65536)
    (hw1 : -65536 ≤ wid) (hw2 : wid ≤ 65536) (hi : I64 prec) (hT : Lib.Utf8Tabs 2 3 w) :
    Calls Tryd.prog 8 #[.slice p bs.length cap, .int .i64 wid, .bool wp, .int .i64 prec, .bool pp, .bool mi, .bool ze] w fun e w' => e = .returned (.bool true) ∧ Below w.heap.size w w' := by
  have h2 : 2 < w.heap.size := World.block_lt_of_cell? w ⟨2, 0, none⟩ (hT.1 0 (by omega))
  have h3 : 3 < w.heap.size := World.block_lt_of_cell? w ⟨3, 0, none⟩ (hT.2 0 (by omega)).1
  have hM : 0 < w.heap.size := World.block_lt_of_cell? w ⟨0, 0, none⟩ hg1
  have HGD := Lib.hid (decide_eq_true (show bs.length ≤ 1048576 by omega))
  have HCl := Lib.hid (zzClone2 p bs.length cap bs w hr (by omega) hc)
  have HT := Lib.hid hT
  have HI := Lib.hid hi
  have HG := Lib.hid hg1
  obtain ⟨f, hf⟩ : ∃ f : Flags, f = ⟨wp, pp, mi, false, false, false, ze, wid, prec⟩ := ⟨_, rfl⟩
  have HNw := Lib.hid (fun (w : World) (hM : 0 < w.heap.size) => newF2 f wp wid pp prec mi false false false ze hf w hM)
  have HIf : Hid (I64 f.prec) := Lib.hid (by rw [hf]; exact hi)
  have HW1 : Hid (-1073741824 ≤ f.wid) := Lib.hid (by rw [hf]; simp only; omega)
  have HW2 : Hid (f.wid ≤ 1073741823) := Lib.hid (by rw [hf]; simp only; omega)
  have hpl : (padded f (cutB f.precP f.prec (sOf bs))).length ≤ 1000000000 := by
    have h1 := padded_length f (cutB f.precP f.prec (sOf bs))
    have h2 := cut_length_le f.precP f.prec bs
    have h3 : f.wid = wid := by rw [hf]
    omega
  have HPL := Lib.hid hpl
  clear hr hc hT hi hg1 hf hpl
  go_enter Tryd.func8, Tryd.ntmps8
  go_wp2_with (fail)
  refine (guardBA _ _ _ _ _ _ _ _ _ w (by omega)).mono ?_
  rintro e w' ⟨rfl, rfl⟩
  rw [HGD.out]
  go_wp2_with (fail)
  refine HCl.out.mono ?_
  intro e w1 hcp
  obtain ⟨q1, c1, rfl, hC1, hq1, hb1⟩ := cpy_of hcp
  have s1 := hb1.size
  have HC1 := Lib.hid hC1
  have HQ1 := Lib.hid hq1
  have HT1 := Lib.hid (tabs_below hb1 h2 h3 HT.out)
  clear hcp hC1 hq1
  have hM1 : 0 < w1.heap.size := Nat.lt_of_lt_of_le hM s1
  have HM1 := Lib.hid (maxl_below hb1 hM HG.out)
  go_wp2_with (fail)
  refine (HNw.out w1 hM1).mono ?_
  rintro e w2 ⟨rfl, hL2, hb2, hz2, hc2⟩
  have s2 := hb2.size
  have HL2 := Lib.hid hL2
  clear hL2 hz2 hc2
  have HT2 := Lib.hid (tabs_below hb2 (by omega) (by omega) HT1.out)
  have HC2 := Lib.hid (HC1.out.old hb2)
  have HM2 := Lib.hid (maxl_below hb2 hM1 HM1.out)
  go_wp2_with (fail)
  refine (zzFBS _ _ _ _ f [] q1 c1 bs w2 HL2.out HM2.out HIf.out HC2.out HQ1.out (by omega) (by simp) HW1.out HW2.out HT2.out (by omega) (by omega)).mono ?_
  rintro e w3 ⟨rfl, hL3, hb3⟩
  have hb13 : Below w1.heap.size w1 w3 := hb2.trans hb3
  have s3 := hb13.size
  have HL3 := Lib.hid hL3
  have HC3 := Lib.hid (HC1.out.old hb13)
  have h03 := hb1.trans (hb13.mono s1)
  clear hL3
  have HM3 := Lib.hid (maxl_below hb13 hM1 HM1.out)
  have hM3 : 0 < w3.heap.size := Nat.lt_of_lt_of_le hM1 s3
  go_wp2_with (fail)
  refine (HNw.out w3 hM3).mono ?_
  rintro e w4 ⟨rfl, hL4, hb4, hz4, hc4⟩
  have s4 := hb4.size
  have HL4 := Lib.hid hL4
  have HM4 := Lib.hid (maxl_below hb4 hM3 HM3.out)
  clear hL4 hz4 hc4
  have hcv := row_conv (cap := c1) (HC3.out.old hb4).row
  go_wp2_with (fail)
  refine (zzFS _ _ _ _ f [] (sOf bs) w4 HL4.out HM4.out HIf.out (by rw [sOf_size]; omega) (by simp) HW1.out HW2.out).mono ?_
  rintro e w5 ⟨rfl, hL5, hb5⟩
  have hb35 : Below w3.heap.size w3 w5 := hb4.trans hb5
  have hZ1 := Lib.hid (zzBuf _ _ _ _ _ _ w5 (HL3.out.grow hb35))
  have hZ2 := Lib.hid (zzBuf _ _ _ _ _ _ w5 hL5)
  clear hL5 hcv
  go_wp2_with (fail)
  refine hZ1.out.mono ?_
  rintro e w' ⟨rfl, p6, cap6, rfl, hr6⟩
  have HR6 := Lib.hid hr6
  clear hr6
  go_wp2_with (fail)
  refine hZ2.out.mono ?_
  rintro e w' ⟨rfl, p7, cap7, rfl, hr7⟩
  have HR7 := Lib.hid hr7
  clear hr7
  go_wp2_with (fail)
  refine (zzEqual p6 p7 _ cap6 _ cap7 _ _ w5 HR6.out HR7.out (by simp only [List.nil_append]; exact HPL.out)).mono ?_
  rintro e w8 ⟨rfl, hb8⟩
  rw [decide_eq_true rfl]
  go_wp2
  go_ret
  have h05 := h03.trans (hb35.mono h03.size)
  exact ⟨rfl, h05.trans (hb8.mono h05.size)⟩

set_option maxRecDepth 100000 in
theorem baLaw (p : Option Addr) (cap : Nat) (bs : List UInt8) (wid prec : Int) (wp pp mi ze : Bool) (w : World) (hg1 : w.cell? ⟨0, 0, none⟩ = some (.int .i64 2147483647)) (hr : RowAt w p bs.length bs) (hc : p = none → cap = 0) (hs : bs.length ≤ 140737488351232) (hi : I64 prec) (hT : Lib.Utf8Tabs 2 3 w) :
    Calls Tryd.prog 8 #[.slice p bs.length cap, .int .i64 wid, .bool wp, .int .i64 prec, .bool pp, .bool mi, .bool ze] w fun e w' => e = .returned (.bool true) ∧ Below w.heap.size w w' := by
  by_cases c1 : bs.length ≤ 1048576
  · by_cases c2 : bs.length ≤ 65536
    · by_cases c3 : -65536 ≤ wid
      · by_cases c4 : wid ≤ 65536
        · exact baMain p cap bs wid prec wp pp mi ze w hg1 hr hc c2 c3 c4 hi hT
        · have HGD := Lib.hid (decide_eq_true c1)
          clear hr hc hT hi hg1
          go_enter Tryd.func8, Tryd.ntmps8
          go_wp2_with (fail)
          refine (guardBA _ _ _ _ _ _ _ _ _ w hs).mono ?_
          rintro e w' ⟨rfl, rfl⟩
          rw [HGD.out]
          go_wp2
          go_ret
          exact ⟨rfl, Below.refl _ _⟩
      · have HGD := Lib.hid (decide_eq_true c1)
        clear hr hc hT hi hg1
        go_enter Tryd.func8, Tryd.ntmps8
        go_wp2_with (fail)
        refine (guardBA _ _ _ _ _ _ _ _ _ w hs).mono ?_
        rintro e w' ⟨rfl, rfl⟩
        rw [HGD.out]
        go_wp2
        go_ret
        exact ⟨rfl, Below.refl _ _⟩
    · have HGD := Lib.hid (decide_eq_true c1)
      clear hr hc hT hi hg1
      go_enter Tryd.func8, Tryd.ntmps8
      go_wp2_with (fail)
      refine (guardBA _ _ _ _ _ _ _ _ _ w hs).mono ?_
      rintro e w' ⟨rfl, rfl⟩
      rw [HGD.out]
      go_wp2
      go_ret
      exact ⟨rfl, Below.refl _ _⟩
  · have HGD := Lib.hid (decide_eq_false c1)
    clear c1
    clear hr hc hT hi hg1
    go_enter Tryd.func8, Tryd.ntmps8
    go_wp2_with (fail)
    refine (guardBA _ _ _ _ _ _ _ _ _ w hs).mono ?_
    rintro e w' ⟨rfl, rfl⟩
    rw [HGD.out]
    go_wp2
    go_ret
    exact ⟨rfl, Below.refl _ _⟩
end Go.Proofs.YtcfllmebcfimeaaDoor.Fm
namespace Go.Proofs.YtcfllmebcfimeaaDoor
open Go.Proofs.YtcfllmebcfimeaaDoor.Fm
theorem fnFmtBsAgreesWithFmtS.walk (a0 : Option Addr) (len0 cap0 : Nat) (z0 : List Int) (a1 : Int) (a2 : Bool) (a3 : Int) (a4 : Bool) (a5 : Bool) (a6 : Bool) (w : World) (w0 : LawFrame.IsRow .u8 1 w a0 len0 cap0 z0) (_w1 : (Lit.int .i64 a1).wf = true) (w3 : (Lit.int .i64 a3).wf = true) (hL : laidMetH Tryd.prog Rows.fnFmtBsAgreesWithFmtSRow.laid w) :
    Calls Tryd.prog 8 #[.slice a0 len0 cap0, .int .i64 a1, .bool a2, .int .i64 a3, .bool a4, .bool a5, .bool a6] w fun e w' => e = .returned (.bool true) ∧ RowKit.Below w.heap.size w w' := by
  obtain ⟨bs, hr, hc, _, hsz⟩ := Go.Fmt.rowAt_of w0
  obtain rfl := hr.len
  rw [MakeChecks.laidMetH_plain _ _ _ (by kernel_rfl)] at hL
  exact baLaw a0 cap0 bs a1 a3 a2 a4 a5 a6 w (maxl_of hL (by simp [Rows.fnFmtBsAgreesWithFmtSRow, Rows.laid_github_com_d5_tengo_v2_MaxStringLen])) hr hc hsz (i64_of w3) (tabs_laid hL (by simp [Rows.fnFmtBsAgreesWithFmtSRow]) (by simp [Rows.fnFmtBsAgreesWithFmtSRow]))
end Go.Proofs.YtcfllmebcfimeaaDoor
