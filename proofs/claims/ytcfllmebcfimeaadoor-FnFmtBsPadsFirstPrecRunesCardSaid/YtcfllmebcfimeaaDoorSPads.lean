/- The law FnFmtSPadsFirstPrecRunes: its walk. -/
import Derived.Test.YtcfllmebcfimeaaDoorModel2
namespace Go.Proofs.YtcfllmebcfimeaaDoor.Fm
open Go.ChangeShapes Go.WideShapes Go.ChangeAt Go.RowKit Go.Fmt

theorem bytesOf2 (w : World) (s : ByteArray) : ∃ w4 cap, (convert 9 22 (.string s)).run Tryd.prog w = .ok (.slice (some ⟨w.heap.size, 0, none⟩) s.size cap) w4 ∧ Cpy w4 (some ⟨w.heap.size, 0, none⟩) cap s.data.toList ∧ Below w.heap.size w w4 := by
  refine ⟨_, _, Lib.run_convert_string_bytes w 9 22 5 s Tryd.underlying9 Tryd.underlying22 Tryd.underlying5, .inr ⟨_, rfl, fun j hj => ?_, ?_⟩, ⟨rfl, rfl, rfl, ?_, fun b hb => Lib.bytesWorld_at_old w _ s b hb⟩⟩
  · have hj' : j < s.size := by rw [Array.length_toList] at hj; exact hj
    rw [Nat.zero_add, Lib.bytesWorld_cell w 5 s j hj', List.getD_eq_getElem?_getD, List.getElem?_eq_getElem hj]
    rfl
  · rw [size_list]; exact grownCap_ge _ _ _ _
  · rw [Lib.bytesWorld_size]; omega
theorem sOf_back (s : ByteArray) : sOf s.data.toList = s := by cases s; rfl
theorem maxl_of {w : World} {l : List (String × DataW Unit)} (h : laidMet Tryd.prog l w) (hm : ("github.com/d5/tengo/v2.MaxStringLen", .lit (.int .i64 2147483647)) ∈ l) : w.cell? ⟨0, 0, none⟩ = some (.int .i64 2147483647) :=
  LawFrame.laid_int h hm (by kernel_rfl) (by kernel_rfl) Tryd.underlying3
theorem i64_of {a : Int} (h : (Lit.int .i64 a).wf = true) : I64 a := by
  simp [Lit.wf, IntKind.min, IntKind.max, IntKind.signed, IntKind.bits] at h
  exact ⟨h.1, h.2⟩

set_option maxHeartbeats 1000000 in
theorem guardSP (s : ByteArray) (v2 v3 v4 v5 v6 v7 : Value) (w : World) (h1 : s.size ≤ 140737488351232) :
    Calls Tryd.prog 34 #[.string s, v2, v3, v4, v5, v6, v7] w fun e w' => e = .returned (.bool (decide (s.size ≤ 1048576))) ∧ w = w' := by
  by_cases a1 : s.size ≤ 1048576
  all_goals
    go_enter Tryd.func34, Tryd.ntmps34
    go_wp2
    go_ret
    exact ⟨by simp [a1], rfl⟩

set_option maxRecDepth 100000 in
set_option maxHeartbeats 2000000 in
theorem spMain (s : ByteArray) (wid prec : Int) (wp pp mi ze : Bool) (w : World) (hg1 : w.cell? ⟨0, 0, none⟩ = some (.int .i64 2147483647)) (hs : s.size ≤ 65536)
    (hw1 : -65536 ≤ wid) (hw2 : wid ≤ 65536) (hi : I64 prec) (hp : pp = false ∨ (pp = true ∧ -65536 ≤ prec)) :
    Calls Tryd.prog 9 #[.string s, .int .i64 wid, .bool wp, .int .i64 prec, .bool pp, .bool mi, .bool ze] w fun e w' => e = .returned (.bool true) ∧ Below w.heap.size w w' := by
  have hM : 0 < w.heap.size := World.block_lt_of_cell? w ⟨0, 0, none⟩ hg1
  obtain ⟨f, hf⟩ : ∃ f : Flags, f = ⟨wp, pp, mi, false, false, false, ze, wid, prec⟩ := ⟨_, rfl⟩
  have HNw := Lib.hid (newF2 f wp wid pp prec mi false false false ze hf w hM)
  have HS := Lib.hid (fun (N base F B : Nat) (w : World) (h : Live w N base F B f []) (hg : w.cell? ⟨0, 0, none⟩ = some (.int .i64 2147483647)) =>
    zzFS N base F B f [] s w h hg (by rw [hf]; exact hi) (by omega) (by simp) (by rw [hf]; simp only; omega) (by rw [hf]; simp only; omega))
  have HT := Lib.hid (fun (q : Option Addr) (c : Nat) (bs : List UInt8) (w : World) (h : Cpy w q c bs) (hl : bs.length ≤ 1048576) =>
    zzText q c bs f w h hl (by rw [hf]; intro h1; simp only at h1 ⊢; rcases hp with h | ⟨_, h⟩; (rw [h] at h1; cases h1); omega) (by rw [hf]; exact hi.2) (by rw [hf]; exact hw1) (by rw [hf]; exact hw2))
  rw [show f.wid = wid by rw [hf], show f.widP = wp by rw [hf], show f.prec = prec by rw [hf], show f.precP = pp by rw [hf], show f.minus = mi by rw [hf], show f.zero = ze by rw [hf]] at HT
  have hpl : (padded f (cutB f.precP f.prec s)).length ≤ 1000000000 := by
    have h1 := padded_length f (cutB f.precP f.prec s)
    have h2 := cut_length_le f.precP f.prec s.data.toList
    rw [sOf_back, size_list] at h2
    rw [show f.wid = wid by rw [hf]] at h1
    omega
  have HPL := Lib.hid hpl
  have hQ : ∀ x y, f.precP = x → f.prec = y → cutB f.precP f.prec s = cutB x y (sOf s.data.toList) := fun x y h1 h2 => by rw [h1, h2, sOf_back]
  have HQ := Lib.hid (hQ pp prec (by rw [hf]) (by rw [hf]))
  have HG := Lib.hid hg1
  have HGD := Lib.hid (decide_eq_true (show s.size ≤ 1048576 by omega))
  have HSL := Lib.hid (show s.data.toList.length ≤ 1048576 by rw [size_list]; omega)
  have HSZ := Lib.hid (size_list s)
  clear hg1 hf hi hpl hQ
  rcases hp with rfl | ⟨rfl, hp⟩
  · go_enter Tryd.func9, Tryd.ntmps9
    go_wp2_with (fail)
    refine (guardSP s _ _ _ _ _ _ w (by omega)).mono ?_
    rintro e w' ⟨rfl, rfl⟩
    rw [HGD.out]
    go_wp2_with (fail)
    refine HNw.out.mono ?_
    rintro e w1 ⟨rfl, hL1, hb1, hz1, hc1⟩
    have HL1 := Lib.hid hL1
    have hm1 := Lib.hid (maxl_below hb1 hM HG.out)
    clear hz1 hc1 hL1
    go_wp2_with (fail)
    refine (HS.out _ _ _ _ w1 HL1.out hm1.out).mono ?_
    rintro e w2 ⟨rfl, hL2, hb2⟩
    have HL2 := Lib.hid hL2
    clear hL2 HL1 hm1
    obtain ⟨w3, cap3, hcv, hcp3, hb3⟩ := bytesOf2 w2 s
    have HTT := HT.out _ cap3 s.data.toList w3 hcp3 HSL.out
    rw [HSZ.out] at HTT
    have HTX := Lib.hid HTT
    clear HTT hcp3
    go_wp2_with (fail)
    refine HTX.out.mono ?_
    intro e w4 hO
    obtain ⟨p4, c4, rfl, hown4, hb4⟩ := hO
    have HR4 := Lib.hid (RowAt.of_own hown4)
    clear hown4 hcv
    have hb24 : Below w2.heap.size w2 w4 := hb3.trans (hb4.mono hb3.size)
    have hZ := Lib.hid (zzBuf _ _ _ _ _ _ w4 (HL2.out.grow hb24))
    go_wp2_with (fail)
    refine hZ.out.mono ?_
    rintro e w5 ⟨rfl, p5, cap5, rfl, hr5⟩
    have HR5 := Lib.hid hr5
    clear hr5
    go_wp2_with (fail)
    refine (zzEqual p5 p4 _ cap5 _ c4 _ _ w4 HR5.out HR4.out (by simp only [List.nil_append]; exact HPL.out)).mono ?_
    rintro e w6 ⟨rfl, hb6⟩
    have hq : decide ([] ++ padded f (cutB f.precP f.prec s) = padded f (cutB false prec (sOf s.data.toList))) = true := by rw [HQ.out]; simp
    rw [hq]
    clear hq
    go_wp2
    go_ret
    have h12 := hb1.trans hb2
    have h24 := h12.trans (hb24.mono h12.size)
    exact ⟨rfl, h24.trans (hb6.mono h24.size)⟩
  · go_enter Tryd.func9, Tryd.ntmps9
    go_wp2_with (fail)
    refine (guardSP s _ _ _ _ _ _ w (by omega)).mono ?_
    rintro e w' ⟨rfl, rfl⟩
    rw [HGD.out]
    go_wp2_with (fail)
    refine HNw.out.mono ?_
    rintro e w1 ⟨rfl, hL1, hb1, hz1, hc1⟩
    have HL1 := Lib.hid hL1
    have hm1 := Lib.hid (maxl_below hb1 hM HG.out)
    clear hz1 hc1 hL1
    go_wp2_with (fail)
    refine (HS.out _ _ _ _ w1 HL1.out hm1.out).mono ?_
    rintro e w2 ⟨rfl, hL2, hb2⟩
    have HL2 := Lib.hid hL2
    clear hL2 HL1 hm1
    obtain ⟨w3, cap3, hcv, hcp3, hb3⟩ := bytesOf2 w2 s
    have HTT := HT.out _ cap3 s.data.toList w3 hcp3 HSL.out
    rw [HSZ.out] at HTT
    have HTX := Lib.hid HTT
    clear HTT hcp3
    go_wp2_with (fail)
    refine HTX.out.mono ?_
    intro e w4 hO
    obtain ⟨p4, c4, rfl, hown4, hb4⟩ := hO
    have HR4 := Lib.hid (RowAt.of_own hown4)
    clear hown4 hcv
    have hb24 : Below w2.heap.size w2 w4 := hb3.trans (hb4.mono hb3.size)
    have hZ := Lib.hid (zzBuf _ _ _ _ _ _ w4 (HL2.out.grow hb24))
    go_wp2_with (fail)
    refine hZ.out.mono ?_
    rintro e w5 ⟨rfl, p5, cap5, rfl, hr5⟩
    have HR5 := Lib.hid hr5
    clear hr5
    go_wp2_with (fail)
    refine (zzEqual p5 p4 _ cap5 _ c4 _ _ w4 HR5.out HR4.out (by simp only [List.nil_append]; exact HPL.out)).mono ?_
    rintro e w6 ⟨rfl, hb6⟩
    have hq : decide ([] ++ padded f (cutB f.precP f.prec s) = padded f (cutB true prec (sOf s.data.toList))) = true := by rw [HQ.out]; simp
    rw [hq]
    clear hq
    go_wp2
    go_ret
    have h12 := hb1.trans hb2
    have h24 := h12.trans (hb24.mono h12.size)
    exact ⟨rfl, h24.trans (hb6.mono h24.size)⟩

set_option maxRecDepth 100000 in
set_option maxHeartbeats 2000000 in
theorem spLaw (s : ByteArray) (wid prec : Int) (wp pp mi ze : Bool) (w : World) (hg1 : w.cell? ⟨0, 0, none⟩ = some (.int .i64 2147483647)) (hs : s.size ≤ 140737488351232) (hi : I64 prec) :
    Calls Tryd.prog 9 #[.string s, .int .i64 wid, .bool wp, .int .i64 prec, .bool pp, .bool mi, .bool ze] w fun e w' => e = .returned (.bool true) ∧ Below w.heap.size w w' := by
  by_cases c1 : s.size ≤ 1048576
  · by_cases c2 : s.size ≤ 65536
    · by_cases c5 : -65536 ≤ wid
      · by_cases c6 : wid ≤ 65536
        · by_cases c7 : pp = false ∨ (pp = true ∧ -65536 ≤ prec)
          · exact spMain s wid prec wp pp mi ze w hg1 c2 c5 c6 hi c7
          · have HGD := Lib.hid (decide_eq_true c1)
            obtain rfl : pp = true := by cases pp <;> simp_all
            have c8 : prec < -65536 := by simp at c7; omega
            clear c7
            skip
            clear hg1
            go_enter Tryd.func9, Tryd.ntmps9
            go_wp2_with (fail)
            refine (guardSP s _ _ _ _ _ _ w hs).mono ?_
            rintro e w' ⟨rfl, rfl⟩
            rw [HGD.out]
            go_wp2
            go_ret
            exact ⟨rfl, Below.refl _ _⟩
        · have HGD := Lib.hid (decide_eq_true c1)
          skip
          clear hg1
          go_enter Tryd.func9, Tryd.ntmps9
          go_wp2_with (fail)
          refine (guardSP s _ _ _ _ _ _ w hs).mono ?_
          rintro e w' ⟨rfl, rfl⟩
          rw [HGD.out]
          go_wp2
          go_ret
          exact ⟨rfl, Below.refl _ _⟩
      · have HGD := Lib.hid (decide_eq_true c1)
        skip
        clear hg1
        go_enter Tryd.func9, Tryd.ntmps9
        go_wp2_with (fail)
        refine (guardSP s _ _ _ _ _ _ w hs).mono ?_
        rintro e w' ⟨rfl, rfl⟩
        rw [HGD.out]
        go_wp2
        go_ret
        exact ⟨rfl, Below.refl _ _⟩
    · have HGD := Lib.hid (decide_eq_true c1)
      skip
      clear hg1
      go_enter Tryd.func9, Tryd.ntmps9
      go_wp2_with (fail)
      refine (guardSP s _ _ _ _ _ _ w hs).mono ?_
      rintro e w' ⟨rfl, rfl⟩
      rw [HGD.out]
      go_wp2
      go_ret
      exact ⟨rfl, Below.refl _ _⟩
  · have HGD := Lib.hid (decide_eq_false c1)
    clear c1
    skip
    clear hg1
    go_enter Tryd.func9, Tryd.ntmps9
    go_wp2_with (fail)
    refine (guardSP s _ _ _ _ _ _ w hs).mono ?_
    rintro e w' ⟨rfl, rfl⟩
    rw [HGD.out]
    go_wp2
    go_ret
    exact ⟨rfl, Below.refl _ _⟩
end Go.Proofs.YtcfllmebcfimeaaDoor.Fm
namespace Go.Proofs.YtcfllmebcfimeaaDoor
open Go.Proofs.YtcfllmebcfimeaaDoor.Fm
theorem fnFmtSPadsFirstPrecRunes.walk (a0 : ByteArray) (a1 : Int) (a2 : Bool) (a3 : Int) (a4 : Bool) (a5 : Bool) (a6 : Bool) (w : World) (w0 : a0.size ≤ 140737488351232) (_w1 : (Lit.int .i64 a1).wf = true) (w3 : (Lit.int .i64 a3).wf = true) (hL : laidMetH Tryd.prog Rows.fnFmtSPadsFirstPrecRunesRow.laid w) :
    Calls Tryd.prog 9 #[.string a0, .int .i64 a1, .bool a2, .int .i64 a3, .bool a4, .bool a5, .bool a6] w fun e w' => e = .returned (.bool true) ∧ RowKit.Below w.heap.size w w' := by
  rw [MakeChecks.laidMetH_plain _ _ _ (by kernel_rfl)] at hL
  exact spLaw a0 a1 a3 a2 a4 a5 a6 w (maxl_of hL (List.mem_cons_of_mem _ (List.mem_cons_self ..))) w0 (i64_of w3)
end Go.Proofs.YtcfllmebcfimeaaDoor
