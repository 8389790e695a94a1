/- The law FnFmtBsPadsFirstPrecRunes: its walk. -/
import Derived.Test.YtcfllmebcfimeaaDoorBs
namespace Go.Proofs.YtcfllmebcfimeaaDoor.Fm
open Go.ChangeShapes Go.WideShapes Go.ChangeAt Go.RowKit Go.Fmt

set_option maxHeartbeats 1000000 in
theorem guardBP (p : Option Addr) (l c : Nat) (v1 v2 v3 v4 v5 v6 : Value) (w : World) (h1 : l ≤ 140737488351232) :
    Calls Tryd.prog 36 #[.slice p l c, v1, v2, v3, v4, v5, v6] w fun e w' => e = .returned (.bool (decide (l ≤ 1048576))) ∧ w = w' := by
  by_cases a1 : l ≤ 1048576
  all_goals
    go_enter Tryd.func36, Tryd.ntmps36
    go_wp2
    go_ret
    exact ⟨by simp [a1], rfl⟩

set_option maxRecDepth 100000 in
set_option maxHeartbeats 4000000 in
theorem bpMain (p : Option Addr) (cap : Nat) (bs : List UInt8) (wid prec : Int) (wp pp mi ze : Bool) (w : World) (hg1 : w.cell? ⟨0, 0, none⟩ = some (.int .i64 2147483647)) (hr : RowAt w p bs.length bs) (hc : p = none → cap = 0) (hs : bs.length ≤ 65536)
    (hw1 : -65536 ≤ wid) (hw2 : wid ≤ 65536) (hi : I64 prec) (hp : pp = false ∨ (pp = true ∧ -65536 ≤ prec)) (hT : Lib.Utf8Tabs 2 3 w) :
    Calls Tryd.prog 10 #[.slice p bs.length cap, .int .i64 wid, .bool wp, .int .i64 prec, .bool pp, .bool mi, .bool ze] w fun e w' => e = .returned (.bool true) ∧ Below w.heap.size w w' := by
  have h2 : 2 < w.heap.size := World.block_lt_of_cell? w ⟨2, 0, none⟩ (hT.1 0 (by omega))
  have h3 : 3 < w.heap.size := World.block_lt_of_cell? w ⟨3, 0, none⟩ (hT.2 0 (by omega)).1
  have hM : 0 < w.heap.size := World.block_lt_of_cell? w ⟨0, 0, none⟩ hg1
  have HGD := Lib.hid (decide_eq_true (show bs.length ≤ 1048576 by omega))
  have HCl := Lib.hid (zzClone2 p bs.length cap bs w hr (by omega) hc)
  have HT := Lib.hid hT
  have HI := Lib.hid hi
  have HG := Lib.hid hg1
  obtain ⟨f, hf⟩ : ∃ f : Flags, f = ⟨wp, pp, mi, false, false, false, ze, wid, prec⟩ := ⟨_, rfl⟩
  have HNw := Lib.hid (fun (w : World) (hM : 0 < w.heap.size) => newF2 f wp wid pp prec mi false false false ze hf w hM)
  have HIf : Hid (I64 f.prec) := Lib.hid (by rw [hf]; exact hi)
  have HW1 : Hid (-1073741824 ≤ f.wid) := Lib.hid (by rw [hf]; simp only; omega)
  have HW2 : Hid (f.wid ≤ 1073741823) := Lib.hid (by rw [hf]; simp only; omega)
  have hpl : (padded f (cutB f.precP f.prec (sOf bs))).length ≤ 1000000000 := by
    have h1 := padded_length f (cutB f.precP f.prec (sOf bs))
    have h2 := cut_length_le f.precP f.prec bs
    have h3 : f.wid = wid := by rw [hf]
    omega
  have HPL := Lib.hid hpl
  have HTm := Lib.hid (fun (q : Option Addr) (c : Nat) (bs : List UInt8) (w : World) (h : Cpy w q c bs) (hl : bs.length ≤ 1048576) =>
    zzText q c bs f w h hl (by rw [hf]; intro h1; simp only at h1 ⊢; rcases hp with h | ⟨_, h⟩; (rw [h] at h1; cases h1); omega) (by rw [hf]; exact hi.2) (by rw [hf]; exact hw1) (by rw [hf]; exact hw2))
  rw [show f.wid = wid by rw [hf], show f.widP = wp by rw [hf], show f.prec = prec by rw [hf], show f.precP = pp by rw [hf], show f.minus = mi by rw [hf], show f.zero = ze by rw [hf]] at HTm
  have hQ : ∀ x y, f.precP = x → f.prec = y → cutB f.precP f.prec (sOf bs) = cutB x y (sOf bs) := fun x y h1 h2 => by rw [h1, h2]
  have HQ := Lib.hid (hQ pp prec (by rw [hf]) (by rw [hf]))
  clear hr hc hT hi hg1 hf hpl hQ
  rcases hp with rfl | ⟨rfl, hp⟩
  · go_enter Tryd.func10, Tryd.ntmps10
    go_wp2_with (fail)
    refine (guardBP _ _ _ _ _ _ _ _ _ w (by omega)).mono ?_
    rintro e w' ⟨rfl, rfl⟩
    rw [HGD.out]
    go_wp2_with (fail)
    refine HCl.out.mono ?_
    intro e w1 hcp
    obtain ⟨q1, c1, rfl, hC1, hq1, hb1⟩ := cpy_of hcp
    have s1 := hb1.size
    have HC1 := Lib.hid hC1
    have HQ1 := Lib.hid hq1
    have HT1 := Lib.hid (tabs_below hb1 h2 h3 HT.out)
    clear hcp hC1 hq1
    have hM1 : 0 < w1.heap.size := Nat.lt_of_lt_of_le hM s1
    have HM1 := Lib.hid (maxl_below hb1 hM HG.out)
    go_wp2_with (fail)
    refine (HNw.out w1 hM1).mono ?_
    rintro e w2 ⟨rfl, hL2, hb2, hz2, hc2⟩
    have s2 := hb2.size
    have HL2 := Lib.hid hL2
    clear hL2 hz2 hc2
    have HT2 := Lib.hid (tabs_below hb2 (by omega) (by omega) HT1.out)
    have HC2 := Lib.hid (HC1.out.old hb2)
    have HM2 := Lib.hid (maxl_below hb2 hM1 HM1.out)
    go_wp2_with (fail)
    refine (zzFBS _ _ _ _ f [] q1 c1 bs w2 HL2.out HM2.out HIf.out HC2.out HQ1.out (by omega) (by simp) HW1.out HW2.out HT2.out (by omega) (by omega)).mono ?_
    rintro e w3 ⟨rfl, hL3, hb3⟩
    have hb13 : Below w1.heap.size w1 w3 := hb2.trans hb3
    have s3 := hb13.size
    have HL3 := Lib.hid hL3
    have HC3 := Lib.hid (HC1.out.old hb13)
    have h03 := hb1.trans (hb13.mono s1)
    clear hL3
    have HTX := Lib.hid (HTm.out q1 c1 bs w3 HC3.out (by omega))
    go_wp2_with (fail)
    refine HTX.out.mono ?_
    intro e w4 hO
    obtain ⟨p4, c4, rfl, hown4, hb4⟩ := hO
    have HR4 := Lib.hid (RowAt.of_own hown4)
    clear hown4
    have hZ := Lib.hid (zzBuf _ _ _ _ _ _ w4 (HL3.out.grow hb4))
    go_wp2_with (fail)
    refine hZ.out.mono ?_
    rintro e w5 ⟨rfl, p5, cap5, rfl, hr5⟩
    have HR5 := Lib.hid hr5
    clear hr5
    go_wp2_with (fail)
    refine (zzEqual p5 p4 _ cap5 _ c4 _ _ w4 HR5.out HR4.out (by simp only [List.nil_append]; exact HPL.out)).mono ?_
    rintro e w6 ⟨rfl, hb6⟩
    have hq : decide ([] ++ padded f (cutB f.precP f.prec (sOf bs)) = padded f (cutB false prec (sOf bs))) = true := by rw [HQ.out]; simp
    rw [hq]
    clear hq
    go_wp2
    go_ret
    have h04 := h03.trans (hb4.mono h03.size)
    exact ⟨rfl, h04.trans (hb6.mono h04.size)⟩
  · go_enter Tryd.func10, Tryd.ntmps10
    go_wp2_with (fail)
    refine (guardBP _ _ _ _ _ _ _ _ _ w (by omega)).mono ?_
    rintro e w' ⟨rfl, rfl⟩
    rw [HGD.out]
    go_wp2_with (fail)
    refine HCl.out.mono ?_
    intro e w1 hcp
    obtain ⟨q1, c1, rfl, hC1, hq1, hb1⟩ := cpy_of hcp
    have s1 := hb1.size
    have HC1 := Lib.hid hC1
    have HQ1 := Lib.hid hq1
    have HT1 := Lib.hid (tabs_below hb1 h2 h3 HT.out)
    clear hcp hC1 hq1
    have hM1 : 0 < w1.heap.size := Nat.lt_of_lt_of_le hM s1
    have HM1 := Lib.hid (maxl_below hb1 hM HG.out)
    go_wp2_with (fail)
    refine (HNw.out w1 hM1).mono ?_
    rintro e w2 ⟨rfl, hL2, hb2, hz2, hc2⟩
    have s2 := hb2.size
    have HL2 := Lib.hid hL2
    clear hL2 hz2 hc2
    have HT2 := Lib.hid (tabs_below hb2 (by omega) (by omega) HT1.out)
    have HC2 := Lib.hid (HC1.out.old hb2)
    have HM2 := Lib.hid (maxl_below hb2 hM1 HM1.out)
    go_wp2_with (fail)
    refine (zzFBS _ _ _ _ f [] q1 c1 bs w2 HL2.out HM2.out HIf.out HC2.out HQ1.out (by omega) (by simp) HW1.out HW2.out HT2.out (by omega) (by omega)).mono ?_
    rintro e w3 ⟨rfl, hL3, hb3⟩
    have hb13 : Below w1.heap.size w1 w3 := hb2.trans hb3
    have s3 := hb13.size
    have HL3 := Lib.hid hL3
    have HC3 := Lib.hid (HC1.out.old hb13)
    have h03 := hb1.trans (hb13.mono s1)
    clear hL3
    have HTX := Lib.hid (HTm.out q1 c1 bs w3 HC3.out (by omega))
    go_wp2_with (fail)
    refine HTX.out.mono ?_
    intro e w4 hO
    obtain ⟨p4, c4, rfl, hown4, hb4⟩ := hO
    have HR4 := Lib.hid (RowAt.of_own hown4)
    clear hown4
    have hZ := Lib.hid (zzBuf _ _ _ _ _ _ w4 (HL3.out.grow hb4))
    go_wp2_with (fail)
    refine hZ.out.mono ?_
    rintro e w5 ⟨rfl, p5, cap5, rfl, hr5⟩
    have HR5 := Lib.hid hr5
    clear hr5
    go_wp2_with (fail)
    refine (zzEqual p5 p4 _ cap5 _ c4 _ _ w4 HR5.out HR4.out (by simp only [List.nil_append]; exact HPL.out)).mono ?_
    rintro e w6 ⟨rfl, hb6⟩
    have hq : decide ([] ++ padded f (cutB f.precP f.prec (sOf bs)) = padded f (cutB true prec (sOf bs))) = true := by rw [HQ.out]; simp
    rw [hq]
    clear hq
    go_wp2
    go_ret
    have h04 := h03.trans (hb4.mono h03.size)
    exact ⟨rfl, h04.trans (hb6.mono h04.size)⟩

set_option maxRecDepth 100000 in
theorem bpLaw (p : Option Addr) (cap : Nat) (bs : List UInt8) (wid prec : Int) (wp pp mi ze : Bool) (w : World) (hg1 : w.cell? ⟨0, 0, none⟩ = some (.int .i64 2147483647)) (hr : RowAt w p bs.length bs) (hc : p = none → cap = 0) (hs : bs.length ≤ 140737488351232) (hi : I64 prec) (hT : Lib.Utf8Tabs 2 3 w) :
    Calls Tryd.prog 10 #[.slice p bs.length cap, .int .i64 wid, .bool wp, .int .i64 prec, .bool pp, .bool mi, .bool ze] w fun e w' => e = .returned (.bool true) ∧ Below w.heap.size w w' := by
  by_cases c1 : bs.length ≤ 1048576
  · by_cases c2 : bs.length ≤ 65536
    · by_cases c3 : -65536 ≤ wid
      · by_cases c4 : wid ≤ 65536
        · by_cases c7 : pp = false ∨ (pp = true ∧ -65536 ≤ prec)
          · exact bpMain p cap bs wid prec wp pp mi ze w hg1 hr hc c2 c3 c4 hi c7 hT
          · have HGD := Lib.hid (decide_eq_true c1)
            obtain rfl : pp = true := by cases pp <;> simp_all
            have c8 : prec < -65536 := by simp at c7; omega
            clear c7
            clear hr hc hT hi hg1
            go_enter Tryd.func10, Tryd.ntmps10
            go_wp2_with (fail)
            refine (guardBP _ _ _ _ _ _ _ _ _ w hs).mono ?_
            rintro e w' ⟨rfl, rfl⟩
            rw [HGD.out]
            go_wp2
            go_ret
            exact ⟨rfl, Below.refl _ _⟩
        · have HGD := Lib.hid (decide_eq_true c1)
          clear hr hc hT hi hg1
          go_enter Tryd.func10, Tryd.ntmps10
          go_wp2_with (fail)
          refine (guardBP _ _ _ _ _ _ _ _ _ w hs).mono ?_
          rintro e w' ⟨rfl, rfl⟩
          rw [HGD.out]
          go_wp2
          go_ret
          exact ⟨rfl, Below.refl _ _⟩
      · have HGD := Lib.hid (decide_eq_true c1)
        clear hr hc hT hi hg1
        go_enter Tryd.func10, Tryd.ntmps10
        go_wp2_with (fail)
        refine (guardBP _ _ _ _ _ _ _ _ _ w hs).mono ?_
        rintro e w' ⟨rfl, rfl⟩
        rw [HGD.out]
        go_wp2
        go_ret
        exact ⟨rfl, Below.refl _ _⟩
    · have HGD := Lib.hid (decide_eq_true c1)
      clear hr hc hT hi hg1
      go_enter Tryd.func10, Tryd.ntmps10
      go_wp2_with (fail)
      refine (guardBP _ _ _ _ _ _ _ _ _ w hs).mono ?_
      rintro e w' ⟨rfl, rfl⟩
      rw [HGD.out]
      go_wp2
      go_ret
      exact ⟨rfl, Below.refl _ _⟩
  · have HGD := Lib.hid (decide_eq_false c1)
    clear c1
    clear hr hc hT hi hg1
    go_enter Tryd.func10, Tryd.ntmps10
    go_wp2_with (fail)
    refine (guardBP _ _ _ _ _ _ _ _ _ w hs).mono ?_
    rintro e w' ⟨rfl, rfl⟩
    rw [HGD.out]
    go_wp2
    go_ret
    exact ⟨rfl, Below.refl _ _⟩
end Go.Proofs.YtcfllmebcfimeaaDoor.Fm
namespace Go.Proofs.YtcfllmebcfimeaaDoor
open Go.Proofs.YtcfllmebcfimeaaDoor.Fm
theorem fnFmtBsPadsFirstPrecRunes.walk (a0 : Option Addr) (len0 cap0 : Nat) (z0 : List Int) (a1 : Int) (a2 : Bool) (a3 : Int) (a4 : Bool) (a5 : Bool) (a6 : Bool) (w : World) (w0 : LawFrame.IsRow .u8 1 w a0 len0 cap0 z0) (_w1 : (Lit.int .i64 a1).wf = true) (w3 : (Lit.int .i64 a3).wf = true) (hL : laidMetH Tryd.prog Rows.fnFmtBsPadsFirstPrecRunesRow.laid w) :
    Calls Tryd.prog 10 #[.slice a0 len0 cap0, .int .i64 a1, .bool a2, .int .i64 a3, .bool a4, .bool a5, .bool a6] w fun e w' => e = .returned (.bool true) ∧ RowKit.Below w.heap.size w w' := by
  obtain ⟨bs, hr, hc, _, hsz⟩ := Go.Fmt.rowAt_of w0
  obtain rfl := hr.len
  rw [MakeChecks.laidMetH_plain _ _ _ (by kernel_rfl)] at hL
  exact bpLaw a0 cap0 bs a1 a3 a2 a4 a5 a6 w (maxl_of hL (by simp [Rows.fnFmtBsPadsFirstPrecRunesRow, Rows.laid_github_com_d5_tengo_v2_MaxStringLen])) hr hc hsz (i64_of w3) (tabs_laid hL (by simp [Rows.fnFmtBsPadsFirstPrecRunesRow]) (by simp [Rows.fnFmtBsPadsFirstPrecRunesRow]))
end Go.Proofs.YtcfllmebcfimeaaDoor
