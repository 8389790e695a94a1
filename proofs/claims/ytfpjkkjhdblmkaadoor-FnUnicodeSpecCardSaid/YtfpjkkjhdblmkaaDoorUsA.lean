/- The law FnUnicodeSpec: its walk where the precision counts. -/
import Derived.Test.YtfpjkkjhdblmkaaDoorUsT
import Derived.Test.YtfpjkkjhdblmkaaDoorFrame
namespace Go.Proofs.YtfpjkkjhdblmkaaDoor.Fm
open Go.ChangeShapes Go.WideShapes Go.ChangeAt Go.RowKit Go.Fmt Go.Num

theorem cat_q (a : List UInt8) : (⟨a.toArray⟩ ++ ⟨#[32, 39]⟩ : ByteArray) = ⟨(a ++ [32, 39]).toArray⟩ := cat_bytes a [32, 39]
theorem cat_e (a : List UInt8) : (⟨a.toArray⟩ ++ ⟨#[39]⟩ : ByteArray) = ⟨(a ++ [39]).toArray⟩ := cat_bytes a [39]
theorem zp_length (cs : List UInt8) (runes : Int) (wp : Bool) (wid : Int) (mi : Bool) (c : UInt8) (h : 0 ≤ runes) (hw : wid ≤ 65536) : (zp cs runes wp wid mi c).length ≤ cs.length + 65536 := by
  unfold zp
  repeat' split
  all_goals simp
  all_goals omega

set_option maxRecDepth 100000 in
set_option maxHeartbeats 4000000 in
theorem usMainA (m : Nat) (wp : Bool) (wid : Int) (pp : Bool) (prec : Int) (mi pl sh sp ze : Bool) (D : Nat) (w : World) (hg1 : w.cell? ⟨0, 0, none⟩ = some (.int .i64 2147483647)) (hT : Lib.PrintTabsAt 2 3 4 5 Lib.goPrintTabs w)
    (hu1 : m ≤ 18446744073709551615) (hw0 : 0 ≤ wid) (hw1 : wid ≤ 65536) (h0 : 0 ≤ prec) (h1 : prec ≤ 65536)
    (hD0 : pp = true ∧ 4 < prec ∧ prec = D) :
    Calls Tryd.prog 6 #[.int .u64 m, .bool wp, .int .i64 wid, .bool pp, .int .i64 prec, .bool mi, .bool pl, .bool sh, .bool sp, .bool ze] w fun e w' => e = .returned (.bool true) ∧ Below w.heap.size w w' := by
  have hD : (pp = true ∧ 4 < prec ∧ prec = D) ∨ (pp = true ∧ ¬ 4 < prec ∧ D = 4) ∨ (pp = false ∧ D = 4) := .inl hD0
  have hM : 0 < w.heap.size := World.block_lt_of_cell? w ⟨0, 0, none⟩ hg1
  obtain ⟨f, hf⟩ : ∃ f : Flags, f = ⟨wp, pp, mi, pl, sh, sp, ze, wid, prec⟩ := ⟨_, rfl⟩
  have HNF := Lib.hid (newF f wp wid pp prec mi pl sh sp ze hf w)
  have hD4 : 4 ≤ D ∧ D ≤ 65536 := by omega
  obtain ⟨pr, hpr⟩ : ∃ pr, pr = Lib.isPrintR Lib.goPrintTabs m := ⟨_, rfl⟩
  obtain ⟨q, hq⟩ : ∃ q, q = (sh && decide (m ≤ 1114111) && pr) := ⟨_, rfl⟩
  have HF : Hid (uprec f = D ∧ f.widP = wp ∧ f.wid = wid ∧ f.minus = mi ∧ f.zero = ze ∧ f.sharp = sh ∧ f.prec = prec) := Lib.hid (by
    rw [hf]
    refine ⟨?_, rfl, rfl, rfl, rfl, rfl, rfl⟩
    unfold uprec
    rcases hD with ⟨rfl, h4, h5⟩ | ⟨rfl, h4, h5⟩ | ⟨rfl, h5⟩
    · rw [if_pos (by simp [h4])]; show prec.toNat = D; omega
    · rw [if_neg (by simp; omega)]; exact h5.symm
    · rw [if_neg (by simp)]; exact h5.symm)
  obtain ⟨H, hH⟩ : ∃ H, H = repr 16 upper m := ⟨_, rfl⟩
  have hHl : 1 ≤ H.length ∧ H.length ≤ 16 := by
    rw [hH]; unfold Go.Num.repr; rw [txt_length]
    exact ⟨dig_ne 16 m, dig_16 m hu1⟩
  obtain ⟨R, hR⟩ : ∃ R, R = List.replicate (D - H.length) (48 : UInt8) := ⟨_, rfl⟩
  obtain ⟨C, hC⟩ : ∃ C, C = coreB D m := ⟨_, rfl⟩
  have hCE : C = 85 :: 43 :: (R ++ H) := by rw [hC, hR, hH]; rfl
  have hCl : C.length ≤ 70000 := by rw [hCE, hR]; simp; omega
  obtain ⟨C2, hC2⟩ : ∃ C2, C2 = C ++ [32, 39] := ⟨_, rfl⟩
  obtain ⟨C3, hC3⟩ : ∃ C3, C3 = C2 ++ encB m := ⟨_, rfl⟩
  obtain ⟨Q, hQ⟩ : ∃ Q, Q = C3 ++ [39] := ⟨_, rfl⟩
  obtain ⟨EN, hEN⟩ : ∃ EN, EN = encB m := ⟨_, rfl⟩
  have hEl : EN.length ≤ 4 := by rw [hEN]; have := (encI_length (m : Int)).2; simpa [encB] using this
  have hC2l : C2.length ≤ 70002 := by rw [hC2]; simp; omega
  have hC3l : C3.length ≤ 70006 := by rw [hC3, ← hEN]; simp; omega
  have hQl : Q.length ≤ 70007 := by rw [hQ]; simp; omega
  obtain ⟨PL, hPL⟩ : ∃ PL, PL = zp C (C.length : Int) wp wid mi 32 := ⟨_, rfl⟩
  obtain ⟨WQ, hWQ⟩ : ∃ WQ, WQ = zp Q ((C.length : Int) + 4) wp wid mi 32 := ⟨_, rfl⟩
  obtain ⟨G, hG⟩ : ∃ G, G = outU f m q := ⟨_, rfl⟩
  have HG : Hid (G = if q then WQ else PL) := Lib.hid (by
    rw [hG]; unfold outU
    rw [HF.out.1]
    cases q
    · rw [uniB_plain, padded_zp f (coreB D m) (C.length : Int) (by rw [hC, rcount_plain]), hPL, hC, HF.out.2.1, HF.out.2.2.1, HF.out.2.2.2.1]
      rfl
    · rw [uniB_quoted, padded_zp f _ ((C.length : Int) + 4) (by rw [hC, rcount_quoted]; simp), hWQ, hQ, hC3, hC2, hC, HF.out.2.1, HF.out.2.2.1, HF.out.2.2.2.1]
      simp)
  have HQ := Lib.hid hq
  have HPR := Lib.hid hpr
  have HGE := Lib.hid hG
  have HREP := Lib.hid (fun W => zzRep 48 ((D : Int) - (H.length : Int)) W (by omega))
  rw [show ((D : Int) - (H.length : Int)).toNat = D - H.length by omega, ← hR] at HREP
  have HRPR := Lib.hid (fun W => zzRepr m 16 ⟨#[48, 49, 50, 51, 52, 53, 54, 55, 56, 57, 65, 66, 67, 68, 69, 70, 88]⟩ true W (by decide) (by decide) hu1 rfl)
  have HP1 := Lib.hid (fun W => zzPad C (C.length : Int) wp wid mi 32 W (by omega) (by omega) hw0 hw1 (by omega))
  rw [← hPL] at HP1
  have HP2 := Lib.hid (fun W => zzPad Q ((C.length : Int) + 4) wp wid mi 32 W (by omega) (by omega) hw0 hw1 (by omega))
  rw [← hWQ] at HP2
  have HEN : Hid (m ≤ 1114111 → ∀ W, Calls Tryd.prog 16 #[.int .i32 m] W fun e w' => e = .returned (.string ⟨EN.toArray⟩) ∧ Below W.heap.size W w') := Lib.hid (fun h W => by rw [hEN]; exact zzEnc m W (by omega) (by omega))
  have hc1 : (⟨#[85, 43]⟩ ++ ⟨R.toArray⟩ : ByteArray) = ⟨(85 :: 43 :: R).toArray⟩ := cat_up R
  have hc2 : (⟨(85 :: 43 :: R).toArray⟩ ++ ⟨H.toArray⟩ : ByteArray) = ⟨C.toArray⟩ := by rw [hCE]; exact cat_bytes _ _
  have hc3 : (⟨C.toArray⟩ ++ ⟨#[32, 39]⟩ : ByteArray) = ⟨C2.toArray⟩ := by rw [hC2]; exact cat_q _
  have hc4 : (⟨C2.toArray⟩ ++ ⟨EN.toArray⟩ : ByteArray) = ⟨C3.toArray⟩ := by rw [hC3, hEN]; exact cat_bytes _ _
  have hc5 : (⟨C3.toArray⟩ ++ ⟨#[39]⟩ : ByteArray) = ⟨Q.toArray⟩ := by rw [hQ]; exact cat_e _
  have hRl : R.length ≤ 65536 := by rw [hR]; simp; omega
  obtain ⟨UR, hUR⟩ : ∃ UR, UR = 85 :: 43 :: R := ⟨_, rfl⟩
  have hURl : UR.length ≤ 65538 := by rw [hUR]; simp; omega
  rw [← hUR] at hc1 hc2
  have HH := Lib.hid hH
  have HT := Lib.hid hT
  have hwD : IntKind.i64.wrap ((D : Int) - (H.length : Int)) = (D : Int) - (H.length : Int) := IntWalk.i64_in _ (by omega)
  have hPLl : PL.length ≤ 200000 := by
    have := zp_length C (C.length : Int) wp wid mi 32 (by omega) hw1
    rw [← hPL] at this
    omega
  have hWQl : WQ.length ≤ 200000 := by
    have := zp_length Q ((C.length : Int) + 4) wp wid mi 32 (by omega) hw1
    rw [← hWQ] at this
    omega
  have hHu := hHl.2
  clear hf hpr hq hH hR hC hCE hC2 hC3 hQ hEN hPL hWQ hG hT hUR hHl
  clear hD
  obtain ⟨rfl, h4, h5⟩ := hD0
  have hDD := h5
  clear h5
  try subst hDD
  go_enter Tryd.func6, Tryd.ntmps6
  go_wp2_with (fail)
  refine HNF.out.mono ?_
  rintro e w1 ⟨F, B, rfl, n1, n2, n3, n4, n5, n6, n7, n8, n9⟩
  have hfr := fresh_of hM n1 n2 n3 n4 n5 n6 n7 n8
  have HU := Lib.hid (zFmtU w.heap.size F B f m pr q w1 hfr (maxl_below n9 hM hg1) hu1 (by rw [HF.out.2.2.1]; exact hw0) (by rw [HF.out.2.2.1]; exact hw1) (by rw [HF.out.2.2.2.2.2.2]; exact h0) (by rw [HF.out.2.2.2.2.2.2]; exact h1) (by rw [HF.out.2.2.2.2.2.1]; exact HQ.out) (fun _ hmx => ⟨fun W hW => by
    rw [HPR.out]
    exact Tryd.strconv_IsPrint Lib.goPrintTabs (m : Int) W (by omega) (by omega) (tabs_below HT.out (n9.trans hW)), fun hp => pr_scalar m hmx (by rw [← HPR.out]; exact hp)⟩))
  rw [← HGE.out] at HU
  have HB1 := Lib.hid n9
  clear n1 n2 n3 n4 n5 n6 n7 n8 n9 hfr HNF
  go_wp2_with (fail)
  refine HU.out.mono ?_
  rintro e w2 ⟨rfl, ⟨base, hl2⟩, hb2⟩
  have HL2 := Lib.hid hl2
  have HB2 : Hid (Below w.heap.size w w2) := Lib.hid (HB1.out.trans hb2)
  clear hl2 hb2 HU HB1
  have HO := Lib.hid (zzOut _ _ F B f _ w2 HL2.out)
  have HZ := Lib.hid (zzZero _ _ F B f _ w2 HL2.out)
  rw [HF.out.2.2.2.2.1] at HZ
  go_wp2_with (fail)
  refine HO.out.mono ?_
  rintro e w' ⟨rfl, rfl⟩
  go_wp2_with (fail)
  refine HZ.out.mono ?_
  rintro e w' ⟨rfl, rfl⟩
  clear HL2 HO HZ
  go_wp2_with (fail)
  refine (HRPR.out _).mono ?_
  rintro e w3 ⟨rfl, hb⟩
  have HB3 : Hid (Below w.heap.size w w3) := Lib.hid (HB2.out.trans (hb.mono HB2.out.size))
  clear hb HB2
  rw [show Go.Num.repr 16 (digs true) m = H from HH.out.symm]
  go_wp2_with (fail)
  refine (HREP.out _).mono ?_
  rintro e w4 ⟨rfl, hb⟩
  have HB4 : Hid (Below w.heap.size w w4) := Lib.hid (HB3.out.trans (hb.mono HB3.out.size))
  clear hb HB3
  go_wp2_with (fail)
  refine (HP1.out _).mono ?_
  rintro e w5 ⟨rfl, hb⟩
  have HB5 : Hid (Below w.heap.size w w5) := Lib.hid (HB4.out.trans (hb.mono HB4.out.size))
  clear hb HB4
  obtain ⟨v5, hv5⟩ : ∃ v, v = sh := ⟨_, rfl⟩
  have hwr : m ≤ 1114111 → IntKind.i32.wrap (m : Int) = m := fun h => IntWalk.i32_in _ (by omega)
  by_cases hpl : q = false
  · have e : G = PL := by rw [HG.out, hpl]; rfl
    subst e
    cases sh
    · go_wp2
      go_ret
      exact ⟨rfl, HB5.out⟩
    by_cases hmx : m ≤ 1114111
    · have hprf : pr = false := by
        have := HQ.out
        rw [hpl, decide_eq_true hmx] at this
        simpa using this.symm
      have HPF := Lib.hid hprf
      have hwr2 := hwr hmx
      clear hv5 hwr hpl hprf
      go_wp2_with (fail)
      refine (HEN.out hmx _).mono ?_
      rintro e w6 ⟨rfl, hb⟩
      have HB6 : Hid (Below w.heap.size w w6) := Lib.hid (HB5.out.trans (hb.mono HB5.out.size))
      clear hb HB5 hwr2
      go_wp2_with (fail)
      refine (HP2.out _).mono ?_
      rintro e w7 ⟨rfl, hb⟩
      have HB7 : Hid (Below w.heap.size w w7) := Lib.hid (HB6.out.trans (hb.mono HB6.out.size))
      clear hb HB6
      by_cases hl : m ≤ 255
      · have HLt := Lib.hid (zzLatin m w7 hl)
        rw [← pr_latin m hl, ← HPR.out, HPF.out] at HLt
        go_wp2_with (fail)
        refine HLt.out.mono ?_
        rintro e w8 ⟨rfl, rfl⟩
        go_wp2
        go_ret
        exact ⟨rfl, HB7.out⟩
      by_cases hl2 : m ≤ 383
      · exfalso
        have := HPR.out
        rw [HPF.out, pr_low m (by omega) hl2] at this
        cases this
      have HX : Hid True := Lib.hid trivial
      go_wp2
      all_goals
        go_ret
        exact ⟨rfl, HB7.out⟩
    · go_wp2
      go_ret
      exact ⟨rfl, HB5.out⟩
  · rw [Bool.not_eq_false] at hpl
    have e : G = WQ := by rw [HG.out, hpl]; rfl
    subst e
    have hq3 : sh = true ∧ m ≤ 1114111 ∧ pr = true := by
      have := HQ.out
      rw [hpl] at this
      simpa [and_assoc] using this.symm
    obtain ⟨rfl, hmx, hprt⟩ := hq3
    have HPT := Lib.hid hprt
    have hwr2 := hwr hmx
    clear hv5 hwr hpl hprt
    go_wp2_with (fail)
    refine (HEN.out hmx _).mono ?_
    rintro e w6 ⟨rfl, hb⟩
    have HB6 : Hid (Below w.heap.size w w6) := Lib.hid (HB5.out.trans (hb.mono HB5.out.size))
    clear hb HB5 hwr2
    go_wp2_with (fail)
    refine (HP2.out _).mono ?_
    rintro e w7 ⟨rfl, hb⟩
    have HB7 : Hid (Below w.heap.size w w7) := Lib.hid (HB6.out.trans (hb.mono HB6.out.size))
    clear hb HB6
    by_cases hl : m ≤ 255
    · have HLt := Lib.hid (zzLatin m w7 hl)
      rw [← pr_latin m hl, ← HPR.out, HPT.out] at HLt
      go_wp2_with (fail)
      refine HLt.out.mono ?_
      rintro e w8 ⟨rfl, rfl⟩
      go_wp2
      go_ret
      exact ⟨rfl, HB7.out⟩
    by_cases hl2 : m ≤ 383
    · go_wp2
      go_ret
      exact ⟨rfl, HB7.out⟩
    by_cases hsur : 55296 ≤ m ∧ m ≤ 57343
    · exfalso
      have := HPR.out
      rw [HPT.out, pr_sur m hsur.1 hsur.2] at this
      cases this
    have HS : Hid (m < 55296 ∨ 57343 < m) := Lib.hid (by omega)
    clear hsur
    by_cases hpq : G = PL
    · subst hpq
      go_wp2
      all_goals
        go_ret
        exact ⟨rfl, HB7.out⟩
    · have hne : ¬ (⟨G.toArray⟩ : ByteArray) = ⟨PL.toArray⟩ := by
        intro e
        exact hpq (by simpa using congrArg (fun b : ByteArray => b.data.toList) e)
      clear hpq
      go_wp2
      all_goals first
        | (exfalso; have := HS.out; omega)
        | (go_ret; exact ⟨rfl, HB7.out⟩)
end Go.Proofs.YtfpjkkjhdblmkaaDoor.Fm
