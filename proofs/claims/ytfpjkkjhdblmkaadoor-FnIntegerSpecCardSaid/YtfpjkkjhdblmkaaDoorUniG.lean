/- The law FnUnicodeAgreesWithHexInteger: its walk. -/
import Derived.Test.YtfpjkkjhdblmkaaDoorUni
import Derived.Test.YtfpjkkjhdblmkaaDoorIntG
import Derived.Test.YtfpjkkjhdblmkaaDoorFrame
namespace Go.Proofs.YtfpjkkjhdblmkaaDoor.Fm
open Go.ChangeShapes Go.WideShapes Go.ChangeAt Go.RowKit Go.Fmt Go.Num

def outU (f : Flags) (m : Nat) (q : Bool) : List UInt8 := padded (f.z false) (uniB (uprec f) m q m)
theorem zFmtU (N F B : Nat) (f : Flags) (m : Nat) (pr q : Bool) (w : World) (h : Fresh w N F B f) (hg1 : w.cell? ⟨0, 0, none⟩ = some (.int .i64 2147483647))
    (hu1 : m ≤ 18446744073709551615) (hw0 : 0 ≤ f.wid) (hw1 : f.wid ≤ 65536) (hp0 : 0 ≤ f.prec) (hp1 : f.prec ≤ 65536) (hq : q = (f.sharp && decide (m ≤ 1114111) && pr))
    (hpr : f.sharp = true → m ≤ 1114111 → (∀ W, Below N w W → Calls Tryd.prog 24 #[.int .i32 m] W fun e w' => e = .returned (.bool pr) ∧ ∃ k, w' = W.drewN k) ∧ (pr = true → Scalar m)) :
    Calls Tryd.prog 11 #[.pointer (some ⟨F, 0, none⟩), .int .u64 m] w fun e w' => e = .returned (.tuple #[]) ∧ (∃ base, Live w' N base F B f (outU f m q)) ∧ Below N w w' := by
  have hC := Lib.hid (fmtUni N F B f m pr q w h hg1 hu1 hw0 hw1 hp0 hp1 hq hpr)
  clear h hg1 hq hpr
  go_enter Tryd.func11, Tryd.ntmps11
  go_wp2_with (fail)
  refine hC.out.mono ?_
  rintro e w' ⟨rfl, h1, h2⟩
  have H1 := Lib.hid h1
  clear h1
  go_wp2
  go_end0
  exact ⟨rfl, H1.out, h2⟩
theorem cat_up (a : List UInt8) : (⟨#[85, 43]⟩ ++ ⟨a.toArray⟩ : ByteArray) = ⟨(85 :: 43 :: a).toArray⟩ := by
  apply ByteArray.ext
  simp

set_option maxRecDepth 100000 in
set_option maxHeartbeats 2000000 in
theorem uaMain (m : Nat) (pp : Bool) (prec : Int) (pl sp ze : Bool) (D : Nat) (w : World) (hg1 : w.cell? ⟨0, 0, none⟩ = some (.int .i64 2147483647)) (hu1 : m ≤ 18446744073709551615) (h0 : 0 ≤ prec) (h1 : prec ≤ 65536)
    (hD : (pp = true ∧ 4 < prec ∧ prec = D) ∨ (pp = true ∧ ¬ 4 < prec ∧ D = 4) ∨ (pp = false ∧ D = 4)) :
    Calls Tryd.prog 4 #[.int .u64 m, .bool pp, .int .i64 prec, .bool pl, .bool sp, .bool ze] w fun e w' => e = .returned (.bool true) ∧ Below w.heap.size w w' := by
  have hM : 0 < w.heap.size := World.block_lt_of_cell? w ⟨0, 0, none⟩ hg1
  obtain ⟨f, hf⟩ : ∃ f : Flags, f = ⟨false, pp, false, pl, false, sp, ze, 0, prec⟩ := ⟨_, rfl⟩
  obtain ⟨f2, hf2⟩ : ∃ f : Flags, f = ⟨false, true, false, false, false, false, false, 0, D⟩ := ⟨_, rfl⟩
  have HF := Lib.hid hf
  have HF2 := Lib.hid hf2
  have HNF := Lib.hid (newF f false 0 pp prec false pl false sp ze hf w)
  have HNF2 := Lib.hid (fun W => newF f2 false 0 true D false false false false false hf2 W)
  have hD4 : 4 ≤ D ∧ D ≤ 65536 := by omega
  have HDP : Hid (uprec f = D) := Lib.hid (by
    rw [hf]; unfold uprec
    rcases hD with ⟨rfl, h4, h5⟩ | ⟨rfl, h4, h5⟩ | ⟨rfl, h5⟩
    · rw [if_pos (by simp [h4])]; show prec.toNat = D; omega
    · rw [if_neg (by simp; omega)]; exact h5.symm
    · rw [if_neg (by simp)]; exact h5.symm)
  have HD := Lib.hid hD
  have HPR2 : Hid (0 ≤ f2.prec ∧ f2.prec ≤ 65536 ∧ f2.prec ≠ 0) := Lib.hid (by rw [hf2]; exact ⟨by show (0 : Int) ≤ (D : Int); omega, by show (D : Int) ≤ 65536; omega, by show (D : Int) ≠ 0; omega⟩)
  have HX : Hid (85 :: 43 :: outB f2 false 88 16 true m = outU f m false) := Lib.hid (by
    unfold outB outU padded
    rw [HDP.out, hf, hf2, if_pos (.inl rfl), if_pos (.inl rfl)]
    unfold uniB quoteB numB signB verbB preB prec0
    simp only [Bool.false_eq_true, if_false, if_true, List.append_nil, Int.toNat_natCast, show decide ((88 : Int) = 79) = false from rfl]
    rfl)
  have HTL : Hid ((outB f2 false 88 16 true m).length ≤ 70000) := Lib.hid (by
    have e : outB f2 false 88 16 true m = fillB D (repr 16 upper m) := by
      unfold outB padded
      rw [hf2, if_pos (.inl rfl)]
      unfold numB signB verbB preB prec0
      simp only [Bool.false_eq_true, if_false, if_true, Int.toNat_natCast, show decide ((88 : Int) = 79) = false from rfl]
      rfl
    have h16 : (repr 16 upper m).length ≤ 16 := by unfold Go.Num.repr; rw [txt_length]; exact dig_16 m hu1
    rw [e, fillB_length]
    omega)
  clear hf hf2
  rcases hD with ⟨rfl, h4, h5⟩ | ⟨rfl, h4, h5⟩ | ⟨rfl, h5⟩
  all_goals
    have hDD := h5
    clear h5
    try subst hDD
    go_enter Tryd.func4, Tryd.ntmps4
    go_wp2_with (fail)
    refine HNF.out.mono ?_
    rintro e w1 ⟨F, B, rfl, n1, n2, n3, n4, n5, n6, n7, n8, n9⟩
    have hfr := fresh_of hM n1 n2 n3 n4 n5 n6 n7 n8
    have HU := Lib.hid (zFmtU w.heap.size F B f m false false w1 hfr (maxl_below n9 hM hg1) hu1 (by rw [HF.out]; exact Int.le_refl _) (by rw [HF.out]; exact (by decide : (0 : Int) ≤ 65536)) (by rw [HF.out]; exact h0) (by rw [HF.out]; exact h1) (by rw [HF.out]; rfl) (fun h => by rw [HF.out] at h; cases h))
    have HB1 := Lib.hid n9
    clear n1 n2 n3 n4 n5 n6 n7 n8 n9 hfr HNF
    go_wp2_with (fail)
    refine HU.out.mono ?_
    rintro e w2 ⟨rfl, ⟨base, hl2⟩, hb2⟩
    have HL2 := Lib.hid hl2
    have HB2 : Hid (Below w.heap.size w w2) := Lib.hid (HB1.out.trans hb2)
    clear hl2 hb2 HU HB1
    go_wp2_with (fail)
    refine (HNF2.out w2).mono ?_
    rintro e w3 ⟨F2, B2, rfl, n1, n2, n3, n4, n5, n6, n7, n8, n9⟩
    have hM2 : 0 < w2.heap.size := Nat.lt_of_lt_of_le hM HB2.out.size
    have hfr := fresh_of hM2 n1 n2 n3 n4 n5 n6 n7 n8
    have hm3 := maxl_below n9 hM2 (maxl_below HB2.out hM hg1)
    have HI := Lib.hid (zFmtI w2.heap.size F2 B2 f2 m 16 false false m 88 true ⟨#[48, 49, 50, 51, 52, 53, 54, 55, 56, 57, 65, 66, 67, 68, 69, 70, 88]⟩ w3 hfr (by omega) rfl (fun h => by omega) hm3 (by omega) (by omega) (.inl ⟨rfl, rfl, rfl⟩) (by rw [HF2.out]; exact Int.le_refl _) (by rw [HF2.out]; exact (by decide : (0 : Int) ≤ 65536)) HPR2.out.1 HPR2.out.2.1 (fun _ h => absurd h HPR2.out.2.2))
    have HB3 := Lib.hid n9
    clear n1 n2 n3 n4 n5 n6 n7 n8 n9 hfr HNF2 hm3
    go_wp2_with (fail)
    refine HI.out.mono ?_
    rintro e w4 ⟨rfl, ⟨base2, hl4⟩, hb4⟩
    have hb24 : Below w2.heap.size w2 w4 := HB3.out.trans hb4
    have HL4 := Lib.hid (HL2.out.grow hb24)
    have HL5 := Lib.hid hl4
    have HB5 : Hid (Below w.heap.size w w4) := Lib.hid (HB2.out.trans (hb24.mono HB2.out.size))
    clear hl4 hb4 hb24 HI HB3
    have HO4 := Lib.hid (zzOut _ _ F B f _ w4 HL4.out)
    have HO5 := Lib.hid (zzOut _ _ F2 B2 f2 _ w4 HL5.out)
    rw [← HX.out] at HO4
    obtain ⟨T, hT⟩ : ∃ T, T = outB f2 false 88 16 true m := ⟨_, rfl⟩
    rw [← hT] at HO4 HO5
    have hTl : T.length ≤ 70000 := by rw [hT]; exact HTL.out
    have hcat := cat_up T
    clear hT HL4 HL5 HTL HX
    go_wp2_with (fail)
    refine HO4.out.mono ?_
    rintro e w' ⟨rfl, rfl⟩
    go_wp2_with (fail)
    refine HO5.out.mono ?_
    rintro e w' ⟨rfl, rfl⟩
    go_wp2
    go_ret
    exact ⟨rfl, HB5.out⟩
set_option maxRecDepth 100000 in
set_option maxHeartbeats 1000000 in
theorem uaLaw (u : Int) (pp : Bool) (prec : Int) (pl sp ze : Bool) (w : World) (hg1 : w.cell? ⟨0, 0, none⟩ = some (.int .i64 2147483647)) (hu0 : 0 ≤ u) (hu1 : u ≤ 18446744073709551615) :
    Calls Tryd.prog 4 #[.int .u64 u, .bool pp, .int .i64 prec, .bool pl, .bool sp, .bool ze] w fun e w' => e = .returned (.bool true) ∧ Below w.heap.size w w' := by
  by_cases h0 : prec < 0
  · clear hg1
    go_enter Tryd.func4, Tryd.ntmps4
    go_wp2
    go_ret
    exact ⟨rfl, Below.refl _ _⟩
  by_cases h1 : 65536 < prec
  · clear hg1
    go_enter Tryd.func4, Tryd.ntmps4
    go_wp2
    go_ret
    exact ⟨rfl, Below.refl _ _⟩
  obtain ⟨m, rfl⟩ := Int.eq_ofNat_of_zero_le hu0
  by_cases h4 : 4 < prec
  · cases pp
    · exact uaMain m false prec pl sp ze 4 w hg1 (by omega) (by omega) (by omega) (.inr (.inr ⟨rfl, rfl⟩))
    · exact uaMain m true prec pl sp ze prec.toNat w hg1 (by omega) (by omega) (by omega) (.inl ⟨rfl, h4, by omega⟩)
  · cases pp
    · exact uaMain m false prec pl sp ze 4 w hg1 (by omega) (by omega) (by omega) (.inr (.inr ⟨rfl, rfl⟩))
    · exact uaMain m true prec pl sp ze 4 w hg1 (by omega) (by omega) (by omega) (.inr (.inl ⟨rfl, h4, rfl⟩))
theorem u64_wf {a : Int} (h : (Lit.int .u64 a).wf = true) : 0 ≤ a ∧ a ≤ 18446744073709551615 := by
  simp [Lit.wf, IntKind.min, IntKind.max, IntKind.signed, IntKind.bits] at h
  omega
theorem maxl_at {laid : List (String × DataW Unit)} {w : World} (h : laidMet Tryd.prog laid w) (hm : ("github.com/d5/tengo/v2.MaxStringLen", .lit (.int .i64 2147483647)) ∈ laid) : w.cell? ⟨0, 0, none⟩ = some (.int .i64 2147483647) :=
  LawFrame.laid_int h hm (by kernel_rfl) (by kernel_rfl) Tryd.underlying3
end Go.Proofs.YtfpjkkjhdblmkaaDoor.Fm
namespace Go.Proofs.YtfpjkkjhdblmkaaDoor
open Fm
theorem fnUnicodeAgreesWithHexInteger.walk (a0 : Int) (a1 : Bool) (a2 : Int) (a3 : Bool) (a4 : Bool) (a5 : Bool) (w : World) (w0 : (Lit.int .u64 a0).wf = true) (_w2 : (Lit.int .i64 a2).wf = true) (hL : laidMetH Tryd.prog Rows.fnUnicodeAgreesWithHexIntegerRow.laid w) :
    Calls Tryd.prog 4 #[.int .u64 a0, .bool a1, .int .i64 a2, .bool a3, .bool a4, .bool a5] w fun e w' => e = .returned (.bool true) ∧ RowKit.Below w.heap.size w w' := by
  rw [MakeChecks.laidMetH_plain _ _ _ (by kernel_rfl)] at hL
  exact uaLaw a0 a1 a2 a3 a4 a5 w (maxl_at hL (by simp [Rows.fnUnicodeAgreesWithHexIntegerRow, Rows.laid_github_com_d5_tengo_v2_MaxStringLen])) (u64_wf w0).1 (u64_wf w0).2
end Go.Proofs.YtfpjkkjhdblmkaaDoor
