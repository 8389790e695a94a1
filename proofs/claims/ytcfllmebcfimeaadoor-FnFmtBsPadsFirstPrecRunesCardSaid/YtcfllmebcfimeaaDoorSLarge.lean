/- The law FnFmtSLargerPrecisionExtends: its walk. -/
import Derived.Test.YtcfllmebcfimeaaDoorModel2
import Derived.Test.YtcfllmebcfimeaaDoorSPads
namespace Go.Proofs.YtcfllmebcfimeaaDoor.Fm
open Go.ChangeShapes Go.WideShapes Go.ChangeAt Go.RowKit Go.Fmt

theorem Cpy.cap {w : World} {q : Option Addr} {c : Nat} {bs : List UInt8} (h : Cpy w q c bs) : bs.length ≤ c := by
  rcases h with ⟨_, rfl, _⟩ | ⟨_, _, _, h⟩
  · simp
  · exact h
theorem offB_mono (s : ByteArray) : ∀ k m pos, k ≤ m → offB s k pos ≤ offB s m pos
  | 0, m, pos, _ => by
    induction m generalizing pos with
    | zero => exact Nat.le_refl _
    | succ m ih =>
      show pos ≤ offB s (m + 1) pos
      rw [offB]
      split
      · exact Nat.le_trans (Nat.le_add_right _ _) (ih (pos + (Utf8.decode s pos).2) (Nat.zero_le _))
      · exact Nat.le_refl _
  | k + 1, 0, _, h => by omega
  | k + 1, m + 1, pos, h => by
    rw [offB, offB]
    split
    · exact offB_mono s k m _ (by omega)
    · exact Nat.le_refl _
/-- What the two texts are to each other. -/
theorem cut_le (s : ByteArray) (lo hi : Int) (h1 : I64 lo) (h2 : I64 hi) (h : -65536 ≤ lo ∧ lo ≤ hi) :
    (([] : List UInt8) ++ padded ⟨false, true, false, false, false, false, false, 0, lo⟩ (cutB true lo s) = ([] ++ padded ⟨false, true, false, false, false, false, false, 0, hi⟩ (cutB true hi s)).take (([] : List UInt8) ++ padded ⟨false, true, false, false, false, false, false, 0, lo⟩ (cutB true lo s)).length) ∧
    (([] : List UInt8) ++ padded ⟨false, true, false, false, false, false, false, 0, hi⟩ (cutB true hi s) = s.data.toList.take (([] : List UInt8) ++ padded ⟨false, true, false, false, false, false, false, 0, hi⟩ (cutB true hi s)).length) ∧
    (([] : List UInt8) ++ padded ⟨false, true, false, false, false, false, false, 0, lo⟩ (cutB true lo s)).length ≤ s.size ∧ (([] : List UInt8) ++ padded ⟨false, true, false, false, false, false, false, 0, hi⟩ (cutB true hi s)).length ≤ s.size := by
  obtain ⟨a1, a2⟩ := h1
  obtain ⟨b1, b2⟩ := h2
  have e : ∀ x cs, padded ⟨false, true, false, false, false, false, false, 0, x⟩ cs = cs := fun x cs => by unfold padded; rw [if_pos (.inl rfl)]
  have k1 : precK lo ≤ precK hi := by unfold precK; rw [if_neg (by omega), if_neg (by omega)]; omega
  have k2 := offB_mono s _ _ 0 k1
  have k3 := offB_le s (precK hi) 0 (Nat.zero_le _)
  have k4 := size_list s
  simp only [e, List.nil_append, cutB, if_true]
  refine ⟨?_, ?_, ?_, ?_⟩
  · rw [List.take_take, List.length_take]; congr 1; omega
  · rw [List.length_take]; congr 1; omega
  · rw [List.length_take]; omega
  · rw [List.length_take]; omega
def BufOut2 (w : World) (bs : List UInt8) (e : Ending) (w' : World) : Prop := w = w' ∧ ∃ p cap, e = .returned (.slice p bs.length cap) ∧ RowAt w p bs.length bs ∧ bs.length ≤ cap
theorem zzBuf2 (N base F B : Nat) (f : Flags) (bs : List UInt8) (w : World) (h : Live w N base F B f bs) : Calls Tryd.prog 33 #[.pointer (some ⟨F, 0, none⟩)] w (BufOut2 w bs) := by
  obtain ⟨p, cap, h1, _, h3, h4, _⟩ := h.buf
  have hq := h.fmt.buf
  have HR := Lib.hid (RowAt.of_own h3)
  clear h h3
  go_enter Tryd.func33, Tryd.ntmps33
  go_wp2
  go_ret
  exact ⟨rfl, p, cap, rfl, HR.out, h4⟩
theorem RowAt.take {w : World} {p : Option Addr} {bs : List UInt8} (h : RowAt w p bs.length bs) (n : Nat) (hn : n ≤ bs.length) : RowAt w p n (bs.take n) := by
  rcases h with ⟨h1, h2, rfl⟩ | ⟨x, h1, _, h⟩
  · exact .inl ⟨h1, by simpa using hn, by simp⟩
  · refine .inr ⟨x, h1, by simp; omega, fun j hj => ?_⟩
    rw [List.getElem_take]
    exact h j (by simp at hj; omega)
theorem zzIsPrefix (p q : Option Addr) (ca cb : Nat) (xs ys : List UInt8) (w : World) (hx : RowAt w p xs.length xs) (hy : RowAt w q ys.length ys) (hcb : ys.length ≤ cb) (he : xs = ys.take xs.length) (hl : xs.length ≤ 1000000000) :
    Calls Tryd.prog 38 #[.slice p xs.length ca, .slice q ys.length cb] w fun e w' => e = .returned (.bool true) ∧ Below w.heap.size w w' := by
  have hle : xs.length ≤ ys.length := by
    have := congrArg List.length he
    rw [List.length_take] at this
    omega
  have HE := Lib.hid (zzEqual p q xs.length ca xs.length cb xs (ys.take xs.length) w hx (RowAt.take hy _ hle) (by omega))
  have HD := Lib.hid (decide_eq_true he)
  clear hx hy he
  have h1 : (xs.length : Int) ≤ (cb : Int) := by omega
  go_enter Tryd.func38, Tryd.ntmps38
  go_wp2_with (fail)
  refine HE.out.mono ?_
  rintro e w1 ⟨rfl, hb⟩
  rw [HD.out]
  go_wp2
  go_ret
  exact ⟨rfl, hb⟩
theorem zzIsPrefix' (p q : Option Addr) (ca cb n : Nat) (xs : List UInt8) {ys : List UInt8} (w : World) (hx : RowAt w p xs.length xs) (hn : ys.length = n) (hy : RowAt w q n ys) (hcb : n ≤ cb) (he : xs = ys.take xs.length) (hl : xs.length ≤ 1000000000) :
    Calls Tryd.prog 38 #[.slice p xs.length ca, .slice q n cb] w fun e w' => e = .returned (.bool true) ∧ Below w.heap.size w w' := by
  subst hn
  exact zzIsPrefix p q ca cb xs ys w hx hy hcb he hl

set_option maxHeartbeats 1000000 in
theorem guardSL (s : ByteArray) (v2 v3 : Value) (w : World) (h1 : s.size ≤ 140737488351232) :
    Calls Tryd.prog 37 #[.string s, v2, v3] w fun e w' => e = .returned (.bool (decide (s.size ≤ 1048576))) ∧ w = w' := by
  by_cases a1 : s.size ≤ 1048576
  all_goals
    go_enter Tryd.func37, Tryd.ntmps37
    go_wp2
    go_ret
    exact ⟨by simp [a1], rfl⟩

set_option maxRecDepth 100000 in
set_option maxHeartbeats 4000000 in
theorem slMain (s : ByteArray) (p1 p2 : Int) (w : World) (hg1 : w.cell? ⟨0, 0, none⟩ = some (.int .i64 2147483647)) (hs : s.size ≤ 65536) (hp1 : -65536 ≤ p1) (hp2 : -65536 ≤ p2) (h1 : I64 p1) (h2 : I64 p2) :
    Calls Tryd.prog 11 #[.string s, .int .i64 p1, .int .i64 p2] w fun e w' => e = .returned (.bool true) ∧ Below w.heap.size w w' := by
  have hM : 0 < w.heap.size := World.block_lt_of_cell? w ⟨0, 0, none⟩ hg1
  have HG := Lib.hid hg1
  have HGD := Lib.hid (decide_eq_true (show s.size ≤ 1048576 by omega))
  have HI1 := Lib.hid h1
  have HI2 := Lib.hid h2
  clear hg1 h1 h2
  by_cases hlt : p2 < p1
  · have HN1 := Lib.hid (newF2 ⟨false, true, false, false, false, false, false, 0, p2⟩ false 0 true p2 false false false false false rfl w hM)
    have HN2 := Lib.hid (fun (w : World) (hM : 0 < w.heap.size) => newF2 ⟨false, true, false, false, false, false, false, 0, p1⟩ false 0 true p1 false false false false false rfl w hM)
    have HK := Lib.hid (cut_le s p2 p1 HI2.out HI1.out (by omega))
    have HS1 := Lib.hid (fun (N base F B : Nat) (w : World) (h : Live w N base F B ⟨false, true, false, false, false, false, false, 0, p2⟩ []) (hg : w.cell? ⟨0, 0, none⟩ = some (.int .i64 2147483647)) => zzFS N base F B ⟨false, true, false, false, false, false, false, 0, p2⟩ [] s w h hg HI2.out (by omega) (by simp) (by simp) (by simp))
    have HS2 := Lib.hid (fun (N base F B : Nat) (w : World) (h : Live w N base F B ⟨false, true, false, false, false, false, false, 0, p1⟩ []) (hg : w.cell? ⟨0, 0, none⟩ = some (.int .i64 2147483647)) => zzFS N base F B ⟨false, true, false, false, false, false, false, 0, p1⟩ [] s w h hg HI1.out (by omega) (by simp) (by simp) (by simp))
    go_enter Tryd.func11, Tryd.ntmps11
    go_wp2_with (fail)
    refine (guardSL s _ _ w (by omega)).mono ?_
    rintro e w' ⟨rfl, rfl⟩
    rw [HGD.out]
    go_wp2_with (fail)
    refine HN1.out.mono ?_
    rintro e w1 ⟨rfl, hL1, hb1, hz1, hc1⟩
    have HL1 := Lib.hid hL1
    have hM1 : 0 < w1.heap.size := Nat.lt_of_lt_of_le hM hb1.size
    have hm1 := Lib.hid (maxl_below hb1 hM HG.out)
    clear hz1 hc1 hL1
    go_wp2_with (fail)
    refine (HS1.out _ _ _ _ w1 HL1.out hm1.out).mono ?_
    rintro e w2 ⟨rfl, hL2, hb2⟩
    have HL2 := Lib.hid hL2
    have hb02 := hb1.trans hb2
    have hM2 : 0 < w2.heap.size := Nat.lt_of_lt_of_le hM hb02.size
    have hm2 := Lib.hid (maxl_below hb02 hM HG.out)
    clear hL2
    go_wp2_with (fail)
    refine (HN2.out w2 hM2).mono ?_
    rintro e w3 ⟨rfl, hL3, hb3, hz3, hc3⟩
    have HL3 := Lib.hid hL3
    have hm3 := Lib.hid (maxl_below hb3 hM2 hm2.out)
    clear hz3 hc3 hL3
    go_wp2_with (fail)
    refine (HS2.out _ _ _ _ w3 HL3.out hm3.out).mono ?_
    rintro e w4 ⟨rfl, hL4, hb4⟩
    have hb24 : Below w2.heap.size w2 w4 := hb3.trans hb4
    have hb04 := hb02.trans (hb24.mono hb02.size)
    have hZ1 := Lib.hid (zzBuf2 _ _ _ _ _ _ w4 (HL2.out.grow hb24))
    have hZ2 := Lib.hid (zzBuf2 _ _ _ _ _ _ w4 hL4)
    clear hL4
    go_wp2_with (fail)
    refine hZ1.out.mono ?_
    rintro e w' ⟨rfl, p5, cap5, rfl, hr5, hk5⟩
    have HR5 := Lib.hid hr5
    clear hr5
    go_wp2_with (fail)
    refine hZ2.out.mono ?_
    rintro e w' ⟨rfl, p6, cap6, rfl, hr6, hk6⟩
    have HR6 := Lib.hid hr6
    have HK6 := Lib.hid hk6
    clear hr6 hk6 hk5
    go_wp2_with (fail)
    refine (zzIsPrefix _ _ _ _ _ _ w4 HR5.out HR6.out HK6.out HK.out.1 (by have := HK.out.2.2.1; omega)).mono ?_
    rintro e w5 ⟨rfl, hb5⟩
    obtain ⟨w6, cap7, hcv, hcp6, hb6⟩ := bytesOf2 w5 s
    have HRw := Lib.hid hcp6.row
    have HCP := Lib.hid hcp6.cap
    have HSZ := Lib.hid (size_list s)
    rw [HSZ.out] at HRw HCP
    clear hcp6
    go_wp2_with (fail)
    have hb46 : Below w4.heap.size w4 w6 := hb5.trans (hb6.mono hb5.size)
    refine (zzIsPrefix' _ _ _ _ _ _ w6 (HR6.out.old hb46) HSZ.out HRw.out HCP.out HK.out.2.1 (by have := HK.out.2.2.2; omega)).mono ?_
    rintro e w7 ⟨rfl, hb7⟩
    go_wp2
    go_ret
    have h06 := hb04.trans (hb46.mono hb04.size)
    exact ⟨rfl, h06.trans (hb7.mono h06.size)⟩
  · have HN1 := Lib.hid (newF2 ⟨false, true, false, false, false, false, false, 0, p1⟩ false 0 true p1 false false false false false rfl w hM)
    have HN2 := Lib.hid (fun (w : World) (hM : 0 < w.heap.size) => newF2 ⟨false, true, false, false, false, false, false, 0, p2⟩ false 0 true p2 false false false false false rfl w hM)
    have HK := Lib.hid (cut_le s p1 p2 HI1.out HI2.out (by omega))
    have HS1 := Lib.hid (fun (N base F B : Nat) (w : World) (h : Live w N base F B ⟨false, true, false, false, false, false, false, 0, p1⟩ []) (hg : w.cell? ⟨0, 0, none⟩ = some (.int .i64 2147483647)) => zzFS N base F B ⟨false, true, false, false, false, false, false, 0, p1⟩ [] s w h hg HI1.out (by omega) (by simp) (by simp) (by simp))
    have HS2 := Lib.hid (fun (N base F B : Nat) (w : World) (h : Live w N base F B ⟨false, true, false, false, false, false, false, 0, p2⟩ []) (hg : w.cell? ⟨0, 0, none⟩ = some (.int .i64 2147483647)) => zzFS N base F B ⟨false, true, false, false, false, false, false, 0, p2⟩ [] s w h hg HI2.out (by omega) (by simp) (by simp) (by simp))
    go_enter Tryd.func11, Tryd.ntmps11
    go_wp2_with (fail)
    refine (guardSL s _ _ w (by omega)).mono ?_
    rintro e w' ⟨rfl, rfl⟩
    rw [HGD.out]
    go_wp2_with (fail)
    refine HN1.out.mono ?_
    rintro e w1 ⟨rfl, hL1, hb1, hz1, hc1⟩
    have HL1 := Lib.hid hL1
    have hM1 : 0 < w1.heap.size := Nat.lt_of_lt_of_le hM hb1.size
    have hm1 := Lib.hid (maxl_below hb1 hM HG.out)
    clear hz1 hc1 hL1
    go_wp2_with (fail)
    refine (HS1.out _ _ _ _ w1 HL1.out hm1.out).mono ?_
    rintro e w2 ⟨rfl, hL2, hb2⟩
    have HL2 := Lib.hid hL2
    have hb02 := hb1.trans hb2
    have hM2 : 0 < w2.heap.size := Nat.lt_of_lt_of_le hM hb02.size
    have hm2 := Lib.hid (maxl_below hb02 hM HG.out)
    clear hL2
    go_wp2_with (fail)
    refine (HN2.out w2 hM2).mono ?_
    rintro e w3 ⟨rfl, hL3, hb3, hz3, hc3⟩
    have HL3 := Lib.hid hL3
    have hm3 := Lib.hid (maxl_below hb3 hM2 hm2.out)
    clear hz3 hc3 hL3
    go_wp2_with (fail)
    refine (HS2.out _ _ _ _ w3 HL3.out hm3.out).mono ?_
    rintro e w4 ⟨rfl, hL4, hb4⟩
    have hb24 : Below w2.heap.size w2 w4 := hb3.trans hb4
    have hb04 := hb02.trans (hb24.mono hb02.size)
    have hZ1 := Lib.hid (zzBuf2 _ _ _ _ _ _ w4 (HL2.out.grow hb24))
    have hZ2 := Lib.hid (zzBuf2 _ _ _ _ _ _ w4 hL4)
    clear hL4
    go_wp2_with (fail)
    refine hZ1.out.mono ?_
    rintro e w' ⟨rfl, p5, cap5, rfl, hr5, hk5⟩
    have HR5 := Lib.hid hr5
    clear hr5
    go_wp2_with (fail)
    refine hZ2.out.mono ?_
    rintro e w' ⟨rfl, p6, cap6, rfl, hr6, hk6⟩
    have HR6 := Lib.hid hr6
    have HK6 := Lib.hid hk6
    clear hr6 hk6 hk5
    go_wp2_with (fail)
    refine (zzIsPrefix _ _ _ _ _ _ w4 HR5.out HR6.out HK6.out HK.out.1 (by have := HK.out.2.2.1; omega)).mono ?_
    rintro e w5 ⟨rfl, hb5⟩
    obtain ⟨w6, cap7, hcv, hcp6, hb6⟩ := bytesOf2 w5 s
    have HRw := Lib.hid hcp6.row
    have HCP := Lib.hid hcp6.cap
    have HSZ := Lib.hid (size_list s)
    rw [HSZ.out] at HRw HCP
    clear hcp6
    go_wp2_with (fail)
    have hb46 : Below w4.heap.size w4 w6 := hb5.trans (hb6.mono hb5.size)
    refine (zzIsPrefix' _ _ _ _ _ _ w6 (HR6.out.old hb46) HSZ.out HRw.out HCP.out HK.out.2.1 (by have := HK.out.2.2.2; omega)).mono ?_
    rintro e w7 ⟨rfl, hb7⟩
    go_wp2
    go_ret
    have h06 := hb04.trans (hb46.mono hb04.size)
    exact ⟨rfl, h06.trans (hb7.mono h06.size)⟩

set_option maxRecDepth 100000 in
set_option maxHeartbeats 2000000 in
theorem slLaw (s : ByteArray) (p1 p2 : Int) (w : World) (hg1 : w.cell? ⟨0, 0, none⟩ = some (.int .i64 2147483647)) (hs : s.size ≤ 140737488351232) (h1 : I64 p1) (h2 : I64 p2) :
    Calls Tryd.prog 11 #[.string s, .int .i64 p1, .int .i64 p2] w fun e w' => e = .returned (.bool true) ∧ Below w.heap.size w w' := by
  by_cases c1 : s.size ≤ 1048576
  · by_cases c2 : s.size ≤ 65536
    · by_cases c5 : -65536 ≤ p1
      · by_cases c6 : -65536 ≤ p2
        · exact slMain s p1 p2 w hg1 c2 c5 c6 h1 h2
        · have HGD := Lib.hid (decide_eq_true c1)
          clear hg1
          go_enter Tryd.func11, Tryd.ntmps11
          go_wp2_with (fail)
          refine (guardSL s _ _ w hs).mono ?_
          rintro e w' ⟨rfl, rfl⟩
          rw [HGD.out]
          go_wp2
          go_ret
          exact ⟨rfl, Below.refl _ _⟩
      · have HGD := Lib.hid (decide_eq_true c1)
        clear hg1
        go_enter Tryd.func11, Tryd.ntmps11
        go_wp2_with (fail)
        refine (guardSL s _ _ w hs).mono ?_
        rintro e w' ⟨rfl, rfl⟩
        rw [HGD.out]
        go_wp2
        go_ret
        exact ⟨rfl, Below.refl _ _⟩
    · have HGD := Lib.hid (decide_eq_true c1)
      clear hg1
      go_enter Tryd.func11, Tryd.ntmps11
      go_wp2_with (fail)
      refine (guardSL s _ _ w hs).mono ?_
      rintro e w' ⟨rfl, rfl⟩
      rw [HGD.out]
      go_wp2
      go_ret
      exact ⟨rfl, Below.refl _ _⟩
  · have HGD := Lib.hid (decide_eq_false c1)
    clear c1
    clear hg1
    go_enter Tryd.func11, Tryd.ntmps11
    go_wp2_with (fail)
    refine (guardSL s _ _ w hs).mono ?_
    rintro e w' ⟨rfl, rfl⟩
    rw [HGD.out]
    go_wp2
    go_ret
    exact ⟨rfl, Below.refl _ _⟩
end Go.Proofs.YtcfllmebcfimeaaDoor.Fm
namespace Go.Proofs.YtcfllmebcfimeaaDoor
open Go.Proofs.YtcfllmebcfimeaaDoor.Fm
theorem fnFmtSLargerPrecisionExtends.walk (a0 : ByteArray) (a1 : Int) (a2 : Int) (w : World) (w0 : a0.size ≤ 140737488351232) (w1 : (Lit.int .i64 a1).wf = true) (w2 : (Lit.int .i64 a2).wf = true) (hL : laidMetH Tryd.prog Rows.fnFmtSLargerPrecisionExtendsRow.laid w) :
    Calls Tryd.prog 11 #[.string a0, .int .i64 a1, .int .i64 a2] w fun e w' => e = .returned (.bool true) ∧ RowKit.Below w.heap.size w w' := by
  rw [MakeChecks.laidMetH_plain _ _ _ (by kernel_rfl)] at hL
  exact slLaw a0 a1 a2 w (maxl_of hL (List.mem_cons_of_mem _ (List.mem_cons_self ..))) w0 (i64_of w1) (i64_of w2)
end Go.Proofs.YtcfllmebcfimeaaDoor
