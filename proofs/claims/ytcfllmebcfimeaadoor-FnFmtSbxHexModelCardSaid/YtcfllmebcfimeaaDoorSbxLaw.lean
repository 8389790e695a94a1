/- The law FnFmtSbxStringAgreesWithBytes: its walk. -/
import Derived.Test.YtcfllmebcfimeaaDoorNew112
import Derived.Test.YtcfllmebcfimeaaDoorEq
import Derived.Test.YtcfllmebcfimeaaDoorClone2
namespace Go.Proofs.YtcfllmebcfimeaaDoor.Fm
open Go.ChangeShapes Go.WideShapes Go.ChangeAt Go.RowKit Go.Fmt

set_option maxHeartbeats 1000000 in
theorem guardSA (s d : ByteArray) (v2 v3 v4 v5 v6 v7 v8 v9 : Value) (w : World) (h1 : s.size ≤ 140737488351232) (h2 : d.size ≤ 140737488351232) :
    Calls Tryd.prog 39 #[.string s, .string d, v2, v3, v4, v5, v6, v7, v8, v9] w fun e w' => e = .returned (.bool (decide (s.size + d.size ≤ 1048576))) ∧ w = w' := by
  by_cases a1 : s.size ≤ 1048576
  · by_cases a2 : d.size ≤ 1048576
    · by_cases a3 : s.size + d.size ≤ 1048576
      all_goals
        go_enter Tryd.func39, Tryd.ntmps39
        go_wp2
        go_ret
        exact ⟨by simp [a3], rfl⟩
    · have a3 : ¬ s.size + d.size ≤ 1048576 := by omega
      go_enter Tryd.func39, Tryd.ntmps39
      go_wp2
      go_ret
      exact ⟨by simp [a3], rfl⟩
  · have a3 : ¬ s.size + d.size ≤ 1048576 := by omega
    go_enter Tryd.func39, Tryd.ntmps39
    go_wp2
    go_ret
    exact ⟨by simp [a3], rfl⟩

theorem hexOut_length (f : Flags) (d : ByteArray) (src : List UInt8) : (hexOut f d src).length ≤ 5 * src.length + 2 + f.wid.toNat := by
  have hk := hexK_le f.precP f.prec src.length
  have hT : (hexText d f.sharp f.space src (hexK f.precP f.prec src.length).toNat).length ≤ 5 * src.length + 2 := by
    unfold hexText
    split
    · simp
    · have := hexN_length_le d f.sharp f.space src (hexK f.precP f.prec src.length).toNat
      omega
  unfold hexOut padB
  generalize hexText d f.sharp f.space src (hexK f.precP f.prec src.length).toNat = T at *
  split
  · omega
  · split <;> simp <;> omega

set_option maxRecDepth 100000 in
set_option maxHeartbeats 2000000 in
theorem saMain (s d : ByteArray) (wid prec : Int) (wp pp mi sh sp ze : Bool) (w : World) (hg1 : w.cell? ⟨0, 0, none⟩ = some (.int .i64 2147483647)) (hs : s.size ≤ 65536) (hd : d.size ≤ 65536) (hd2 : 17 ≤ d.size)
    (hw1 : -65536 ≤ wid) (hw2 : wid ≤ 65536) (hp : pp = false ∨ (pp = true ∧ -65536 ≤ prec)) :
    Calls Tryd.prog 12 #[.string s, .string d, .int .i64 wid, .bool wp, .int .i64 prec, .bool pp, .bool mi, .bool sh, .bool sp, .bool ze] w fun e w' => e = .returned (.bool true) ∧ Below w.heap.size w w' := by
  have hM : 0 < w.heap.size := World.block_lt_of_cell? w ⟨0, 0, none⟩ hg1
  have hlen : s.data.toList.length = s.size := by rw [Array.length_toList]; rfl
  have hsl : s.data.toList.length ≤ 1048576 := by omega
  have hpp : -1048576 ≤ prec ∨ pp = false := by rcases hp with h | ⟨_, h⟩; exact .inr h; exact .inl (by omega)
  obtain ⟨f, hf⟩ : ∃ f : Flags, f = ⟨wp, pp, mi, false, sh, sp, ze, wid, prec⟩ := ⟨_, rfl⟩
  have HN := Lib.hid (fun (w : World) (hM : 0 < w.heap.size) => newF2 f wp wid pp prec mi false sh sp ze hf w hM)
  have hfw : f.wid = wid := by rw [hf]
  have hfp : f.prec = prec := by rw [hf]
  have hfq : f.precP = pp := by rw [hf]
  have HS := Lib.hid (fun (N base F B : Nat) (src : List UInt8) (t : ByteArray) (p : Option Addr) (l c : Nat) (w : World) (h : Live w N base F B f []) (hg : w.cell? ⟨0, 0, none⟩ = some (.int .i64 2147483647)) (hk : SrcK w base B src t p l) (hn : src.length ≤ 1048576) =>
    zzSbx N base F B f [] src t d p l c w h hg hk (by simp) (by rw [hfw]; omega) (by rw [hfw]; omega) hn (by rw [hfp, hfq]; exact hpp) hd2)
  have HL := Lib.hid hlen
  have HG := Lib.hid hg1
  have HO := Lib.hid (show ([] ++ hexOut f d s.data.toList).length ≤ 1000000000 by have := hexOut_length f d s.data.toList; rw [hfw] at this; simp only [List.nil_append]; omega)
  clear hlen hg1 hf hfw hfp hfq hpp
  have hgd := decide_eq_true (show s.size + d.size ≤ 1048576 by omega)
  have HGD := Lib.hid hgd
  clear hgd
  rcases hp with rfl | ⟨rfl, hp⟩
  all_goals
    go_enter Tryd.func12, Tryd.ntmps12
    go_wp2_with (fail)
    refine (guardSA s d _ _ _ _ _ _ _ _ w (by omega) (by omega)).mono ?_
    rintro e w' ⟨rfl, rfl⟩
    rw [HGD.out]
    go_wp2_with (fail)
    refine (HN.out w hM).mono ?_
    rintro e w1 ⟨rfl, hL1, hb1, hz1, hc1⟩
    have HL1 := Lib.hid hL1
    have hM1 : 0 < w1.heap.size := Nat.lt_of_lt_of_le hM hb1.size
    have hm1 := Lib.hid (maxl_below hb1 hM HG.out)
    clear hz1 hc1 hL1
    go_wp2_with (fail)
    refine (HS.out _ _ _ _ s.data.toList s none 0 0 w1 HL1.out hm1.out (.inl ⟨rfl, rfl, rfl⟩) hsl).mono ?_
    rintro e w2 ⟨rfl, hL2, hb2⟩
    have HL2 := Lib.hid hL2
    have hM2 : 0 < w2.heap.size := Nat.lt_of_lt_of_le hM1 hb2.size
    have hm2 := Lib.hid (maxl_below hb2 hM hm1.out)
    clear hL2 HL1 hm1
    go_wp2_with (fail)
    refine (HN.out w2 hM2).mono ?_
    rintro e w3 ⟨rfl, hL3, hb3, hz3, hc3⟩
    have HL3 := Lib.hid hL3
    have HZ3 := Lib.hid hz3
    have HC3 := Lib.hid hc3
    have hM3 : 0 < w3.heap.size := Nat.lt_of_lt_of_le hM2 hb3.size
    have hm3 := Lib.hid (maxl_below hb3 hM2 hm2.out)
    clear hL3 hz3 hc3 hm2
    obtain ⟨w4, cap4, hcv, hat4, hb4, hz4⟩ := bytesOf w3 s
    have HAT := Lib.hid hat4
    have HZ4 := Lib.hid hz4
    have hm4 := Lib.hid (maxl_below hb4 hM3 hm3.out)
    clear hat4 hz4 hm3
    go_wp2_with (fail)
    have hL4 := HL3.out.grow hb4
    have hc4 := (hb4.cell (p := ⟨w2.heap.size, 0, none⟩) (by show w2.heap.size < _; rw [HZ3.out]; omega)).trans HC3.out
    have hL5 := hL4.raise w4.heap.size (by rw [HZ4.out, HZ3.out]; omega) (Nat.le_refl _) hc4
    have HL5 := Lib.hid hL5
    have hk5 : SrcK w4 w4.heap.size w2.heap.size s.data.toList ⟨#[]⟩ (some ⟨w3.heap.size, 0, none⟩) s.size :=
      .inr ⟨w3.heap.size, 0, rfl, HL.out.symm, HAT.out, by rw [HZ4.out]; omega, by rw [HZ3.out]; omega⟩
    have HK5 := Lib.hid hk5
    clear hL4 hc4 hL5 hk5 hcv
    refine (HS.out _ _ _ _ s.data.toList ⟨#[]⟩ _ _ cap4 w4 HL5.out hm4.out HK5.out hsl).mono ?_
    rintro e w5 ⟨rfl, hL6, hb5⟩
    have hb25 : Below w2.heap.size w2 w5 := hb3.trans ((hb4.mono hb3.size).trans hb5)
    have hL7 := HL2.out.grow hb25
    have hZ1 := Lib.hid (zzBuf _ _ _ _ _ _ w5 hL7)
    have hZ2 := Lib.hid (zzBuf _ _ _ _ _ _ w5 hL6)
    clear hL6 hL7
    go_wp2_with (fail)
    refine hZ1.out.mono ?_
    rintro e w6 ⟨rfl, p6, cap6, rfl, hr6⟩
    have HR6 := Lib.hid hr6
    clear hr6
    go_wp2_with (fail)
    refine hZ2.out.mono ?_
    rintro e w7 ⟨rfl, p7, cap7, rfl, hr7⟩
    have HR7 := Lib.hid hr7
    clear hr7
    go_wp2_with (fail)
    refine (zzEqual p6 p7 _ cap6 _ cap7 _ _ w5 HR6.out HR7.out HO.out).mono ?_
    rintro e w8 ⟨rfl, hb8⟩
    go_wp2
    go_ret
    exact ⟨by simp, (hb1.trans hb2).trans ((hb25.mono (Nat.le_trans hb1.size hb2.size)).trans (hb8.mono (Nat.le_trans hb1.size (Nat.le_trans hb2.size hb25.size))))⟩

set_option maxRecDepth 100000 in
set_option maxHeartbeats 2000000 in
theorem saLaw (s d : ByteArray) (wid prec : Int) (wp pp mi sh sp ze : Bool) (w : World) (hg1 : w.cell? ⟨0, 0, none⟩ = some (.int .i64 2147483647)) (hs : s.size ≤ 140737488351232) (hd : d.size ≤ 140737488351232) :
    Calls Tryd.prog 12 #[.string s, .string d, .int .i64 wid, .bool wp, .int .i64 prec, .bool pp, .bool mi, .bool sh, .bool sp, .bool ze] w fun e w' => e = .returned (.bool true) ∧ Below w.heap.size w w' := by
  by_cases c1 : s.size + d.size ≤ 1048576
  · have HGD := Lib.hid (decide_eq_true c1)
    by_cases c2 : s.size ≤ 65536
    · by_cases c3 : d.size ≤ 65536
      · by_cases c4 : 17 ≤ d.size
        · by_cases c5 : -65536 ≤ wid
          · by_cases c6 : wid ≤ 65536
            · by_cases c7 : pp = false ∨ (pp = true ∧ -65536 ≤ prec)
              · exact saMain s d wid prec wp pp mi sh sp ze w hg1 c2 c3 c4 c5 c6 c7
              · obtain rfl : pp = true := by cases pp <;> simp_all
                have c8 : prec < -65536 := by simp at c7; omega
                clear c7 hg1
                go_enter Tryd.func12, Tryd.ntmps12
                go_wp2_with (fail)
                refine (guardSA s d _ _ _ _ _ _ _ _ w hs hd).mono ?_
                rintro e w' ⟨rfl, rfl⟩
                rw [HGD.out]
                go_wp2
                go_ret
                exact ⟨rfl, Below.refl _ _⟩
            · clear hg1
              go_enter Tryd.func12, Tryd.ntmps12
              go_wp2_with (fail)
              refine (guardSA s d _ _ _ _ _ _ _ _ w hs hd).mono ?_
              rintro e w' ⟨rfl, rfl⟩
              rw [HGD.out]
              go_wp2
              go_ret
              exact ⟨rfl, Below.refl _ _⟩
          · clear hg1
            go_enter Tryd.func12, Tryd.ntmps12
            go_wp2_with (fail)
            refine (guardSA s d _ _ _ _ _ _ _ _ w hs hd).mono ?_
            rintro e w' ⟨rfl, rfl⟩
            rw [HGD.out]
            go_wp2
            go_ret
            exact ⟨rfl, Below.refl _ _⟩
        · clear hg1
          go_enter Tryd.func12, Tryd.ntmps12
          go_wp2_with (fail)
          refine (guardSA s d _ _ _ _ _ _ _ _ w hs hd).mono ?_
          rintro e w' ⟨rfl, rfl⟩
          rw [HGD.out]
          go_wp2
          go_ret
          exact ⟨rfl, Below.refl _ _⟩
      · clear hg1
        go_enter Tryd.func12, Tryd.ntmps12
        go_wp2_with (fail)
        refine (guardSA s d _ _ _ _ _ _ _ _ w hs hd).mono ?_
        rintro e w' ⟨rfl, rfl⟩
        rw [HGD.out]
        go_wp2
        go_ret
        exact ⟨rfl, Below.refl _ _⟩
    · clear hg1
      go_enter Tryd.func12, Tryd.ntmps12
      go_wp2_with (fail)
      refine (guardSA s d _ _ _ _ _ _ _ _ w hs hd).mono ?_
      rintro e w' ⟨rfl, rfl⟩
      rw [HGD.out]
      go_wp2
      go_ret
      exact ⟨rfl, Below.refl _ _⟩
  · have HGD := Lib.hid (decide_eq_false c1)
    clear hg1 c1
    go_enter Tryd.func12, Tryd.ntmps12
    go_wp2_with (fail)
    refine (guardSA s d _ _ _ _ _ _ _ _ w hs hd).mono ?_
    rintro e w' ⟨rfl, rfl⟩
    rw [HGD.out]
    go_wp2
    go_ret
    exact ⟨rfl, Below.refl _ _⟩
end Go.Proofs.YtcfllmebcfimeaaDoor.Fm
namespace Go.Proofs.YtcfllmebcfimeaaDoor
open Go.Proofs.YtcfllmebcfimeaaDoor.Fm
theorem Fm.maxl_sa {w : World} (h : laidMetH Tryd.prog Rows.fnFmtSbxStringAgreesWithBytesRow.laid w) : w.cell? ⟨0, 0, none⟩ = some (.int .i64 2147483647) := by
  rw [MakeChecks.laidMetH_plain _ _ _ (by kernel_rfl)] at h
  exact LawFrame.laid_int h (List.mem_cons_of_mem _ (List.mem_cons_self ..)) (by kernel_rfl) (by kernel_rfl) Tryd.underlying3
theorem fnFmtSbxStringAgreesWithBytes.walk (a0 : ByteArray) (a1 : ByteArray) (a2 : Int) (a3 : Bool) (a4 : Int) (a5 : Bool) (a6 : Bool) (a7 : Bool) (a8 : Bool) (a9 : Bool) (w : World) (w0 : a0.size ≤ 140737488351232) (w1 : a1.size ≤ 140737488351232) (_w2 : (Lit.int .i64 a2).wf = true) (_w4 : (Lit.int .i64 a4).wf = true) (hL : laidMetH Tryd.prog Rows.fnFmtSbxStringAgreesWithBytesRow.laid w) :
    Calls Tryd.prog 12 #[.string a0, .string a1, .int .i64 a2, .bool a3, .int .i64 a4, .bool a5, .bool a6, .bool a7, .bool a8, .bool a9] w fun e w' => e = .returned (.bool true) ∧ RowKit.Below w.heap.size w w' :=
  saLaw a0 a1 a2 a4 a3 a5 a6 a7 a8 a9 w (maxl_sa hL) w0 w1
end Go.Proofs.YtcfllmebcfimeaaDoor
