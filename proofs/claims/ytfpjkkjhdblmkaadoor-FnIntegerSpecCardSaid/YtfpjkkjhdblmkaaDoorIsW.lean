/- The law FnIntegerSpec: its walk. -/
import Derived.Test.YtfpjkkjhdblmkaaDoorIs
import Derived.Test.YtfpjkkjhdblmkaaDoorFrame
namespace Go.Proofs.YtfpjkkjhdblmkaaDoor.Fm
open Go.ChangeShapes Go.WideShapes Go.ChangeAt Go.RowKit Go.Fmt Go.Num

set_option maxRecDepth 100000 in
set_option maxHeartbeats 4000000 in
theorem isZero (b : Nat) (sg : Bool) (vb : Int) (up wp : Bool) (wid : Int) (x : Int) (w : World) (hg1 : w.cell? ⟨0, 0, none⟩ = some (.int .i64 2147483647))
    (hw0 : 0 ≤ wid) (hw1 : wid ≤ 65536) (hb : b = 2 ∨ b = 8 ∨ b = 10 ∨ b = 16) (hvb8 : vb = 79 → b = 8) :
    Calls Tryd.prog 5 #[.int .u64 0, .int .i64 b, .bool sg, .int .i32 vb, .bool up, .bool wp, .int .i64 wid, .bool true, .int .i64 0, .int .u8 x] w fun e w' => e = .returned (.bool true) ∧ Below w.heap.size w w' := by
  have HB := Lib.hid hb
  have HV := Lib.hid hvb8
  clear hb hvb8
  go_enter Tryd.func5, Tryd.ntmps5
  go_upto_region 5 with (fail)
  refine wp_cut (fun a' w' => ∃ g : Nat → Value, ((g 59 = .bool false) ∧ w = w') ∧ a' = ⟨#[.int .u64 0, .int .i64 b, .bool sg, .int .i32 vb, .bool up, .bool wp, .int .i64 wid, .bool true, .int .i64 0, .int .u8 x, g 10, g 11, g 12, g 13, g 14, g 15, g 16, g 17, g 18, g 19, g 20, g 21, g 22, g 23, g 24, g 25, g 26, g 27, g 28, g 29, g 30, g 31, g 32, g 33, g 34, g 35, g 36, g 37, g 38, g 39, g 40, g 41, g 42, g 43, g 44, g 45, g 46, g 47, g 48, g 49, g 50, g 51, g 52, g 53, g 54, g 55, g 56, g 57, g 58, g 59, g 60, g 61, g 62, g 63, g 64, g 65, g 66, g 67, g 68, g 69, g 70, g 71, g 72, g 73, g 74, g 75, g 76, g 77, g 78, g 79, g 80, g 81, g 82, g 83, g 84, g 85, g 86, g 87, g 88, g 89, g 90, g 91, g 92, g 93, g 94, g 95, g 96, g 97, g 98, g 99, g 100, g 101, g 102, g 103, g 104, g 105, g 106, g 107, g 108, g 109, g 110, g 111, g 112, g 113, g 114, g 115, g 116, g 117, g 118, g 119, g 120, g 121, g 122, g 123, g 124, g 125, g 126, g 127, g 128, g 129, g 130, g 131, g 132, g 133, g 134, g 135, g 136, g 137, g 138, g 139, g 140, g 141, g 142, g 143, g 144, g 145, g 146, g 147, g 148, g 149, g 150, g 151, g 152, g 153, g 154, g 155, g 156, g 157, g 158, g 159, g 160, g 161, g 162, g 163, g 164, g 165, g 166, g 167, g 168, g 169, g 170, g 171, g 172, g 173, g 174, g 175, g 176, g 177, g 178, g 179, g 180, g 181, g 182, g 183, g 184, g 185, g 186, g 187, g 188, g 189, g 190, g 191, g 192, g 193, g 194, g 195, g 196, g 197, g 198, g 199, g 200], []⟩) ?rest ?first
  case first =>
    intro _ _ _ _
    rcases HB.out with rfl | rfl | rfl | rfl
    all_goals
      go_wp2
      refine Met.intro ?_
      go_step
      refine meetG (by kernel_rfl) ?_
      exact ⟨rfl, rfl⟩
  case rest =>
  rintro _ wc ⟨g, ⟨h59, rfl⟩, rfl⟩
  rw [h59]
  clear h59
  go_upto_region 7 with (fail)
  refine wp_cut (fun a' w' => ∃ g : Nat → Value, ((g 65 = .bool false) ∧ w = w') ∧ a' = ⟨#[.int .u64 0, .int .i64 b, .bool sg, .int .i32 vb, .bool up, .bool wp, .int .i64 wid, .bool true, .int .i64 0, .int .u8 x, g 10, g 11, g 12, g 13, g 14, g 15, g 16, g 17, g 18, g 19, g 20, g 21, g 22, g 23, g 24, g 25, g 26, g 27, g 28, g 29, g 30, g 31, g 32, g 33, g 34, g 35, g 36, g 37, g 38, g 39, g 40, g 41, g 42, g 43, g 44, g 45, g 46, g 47, g 48, g 49, g 50, g 51, g 52, g 53, g 54, g 55, g 56, g 57, g 58, g 59, g 60, g 61, g 62, g 63, g 64, g 65, g 66, g 67, g 68, g 69, g 70, g 71, g 72, g 73, g 74, g 75, g 76, g 77, g 78, g 79, g 80, g 81, g 82, g 83, g 84, g 85, g 86, g 87, g 88, g 89, g 90, g 91, g 92, g 93, g 94, g 95, g 96, g 97, g 98, g 99, g 100, g 101, g 102, g 103, g 104, g 105, g 106, g 107, g 108, g 109, g 110, g 111, g 112, g 113, g 114, g 115, g 116, g 117, g 118, g 119, g 120, g 121, g 122, g 123, g 124, g 125, g 126, g 127, g 128, g 129, g 130, g 131, g 132, g 133, g 134, g 135, g 136, g 137, g 138, g 139, g 140, g 141, g 142, g 143, g 144, g 145, g 146, g 147, g 148, g 149, g 150, g 151, g 152, g 153, g 154, g 155, g 156, g 157, g 158, g 159, g 160, g 161, g 162, g 163, g 164, g 165, g 166, g 167, g 168, g 169, g 170, g 171, g 172, g 173, g 174, g 175, g 176, g 177, g 178, g 179, g 180, g 181, g 182, g 183, g 184, g 185, g 186, g 187, g 188, g 189, g 190, g 191, g 192, g 193, g 194, g 195, g 196, g 197, g 198, g 199, g 200], []⟩) ?rest ?first
  case first =>
    intro _ _ _ _
    by_cases hv : vb = 79
    · obtain rfl := HV.out hv
      subst hv
      go_wp2
      refine Met.intro ?_
      go_step
      refine meetG (by kernel_rfl) ?_
      exact ⟨rfl, rfl⟩
    · have hvf : (vb == 79) = false := by simpa using hv
      clear hv
      go_wp2
      refine Met.intro ?_
      go_step
      refine meetG (by kernel_rfl) ?_
      exact ⟨rfl, rfl⟩
  case rest =>
  rintro _ wc ⟨g, ⟨h65, rfl⟩, rfl⟩
  rw [h65]
  clear h65
  go_upto_if 81 with (fail)
  refine wp_cut (fun a' w' => ∃ g : Nat → Value, ((g 21 = .bool (bits .and .u8 x 1 != 0) ∧ g 22 = .bool (bits .and .u8 x 2 != 0) ∧ g 23 = .bool (bits .and .u8 x 4 != 0) ∧ g 24 = .bool (bits .and .u8 x 8 != 0) ∧ g 25 = .bool (bits .and .u8 x 16 != 0) ∧ g 26 = .string ⟨(digs up).toArray⟩) ∧ w = w') ∧ a' = ⟨#[.int .u64 0, .int .i64 b, .bool sg, .int .i32 vb, .bool up, .bool wp, .int .i64 wid, .bool true, .int .i64 0, .int .u8 x, g 10, g 11, g 12, g 13, g 14, g 15, g 16, g 17, g 18, g 19, g 20, g 21, g 22, g 23, g 24, g 25, g 26, g 27, g 28, g 29, g 30, g 31, g 32, g 33, g 34, g 35, g 36, g 37, g 38, g 39, g 40, g 41, g 42, g 43, g 44, g 45, g 46, g 47, g 48, g 49, g 50, g 51, g 52, g 53, g 54, g 55, g 56, g 57, g 58, g 59, g 60, g 61, g 62, g 63, g 64, g 65, g 66, g 67, g 68, g 69, g 70, g 71, g 72, g 73, g 74, g 75, g 76, g 77, g 78, g 79, g 80, g 81, g 82, g 83, g 84, g 85, g 86, g 87, g 88, g 89, g 90, g 91, g 92, g 93, g 94, g 95, g 96, g 97, g 98, g 99, g 100, g 101, g 102, g 103, g 104, g 105, g 106, g 107, g 108, g 109, g 110, g 111, g 112, g 113, g 114, g 115, g 116, g 117, g 118, g 119, g 120, g 121, g 122, g 123, g 124, g 125, g 126, g 127, g 128, g 129, g 130, g 131, g 132, g 133, g 134, g 135, g 136, g 137, g 138, g 139, g 140, g 141, g 142, g 143, g 144, g 145, g 146, g 147, g 148, g 149, g 150, g 151, g 152, g 153, g 154, g 155, g 156, g 157, g 158, g 159, g 160, g 161, g 162, g 163, g 164, g 165, g 166, g 167, g 168, g 169, g 170, g 171, g 172, g 173, g 174, g 175, g 176, g 177, g 178, g 179, g 180, g 181, g 182, g 183, g 184, g 185, g 186, g 187, g 188, g 189, g 190, g 191, g 192, g 193, g 194, g 195, g 196, g 197, g 198, g 199, g 200], []⟩) ?rest ?first
  case first =>
    intro _ _ _ _
    cases up
    all_goals
      go_wp2
      refine Met.intro ?_
      go_step
      refine meetG (by kernel_rfl) ?_
      exact ⟨⟨rfl, rfl, rfl, rfl, rfl, rfl⟩, rfl⟩
  case rest =>
  rintro _ wc ⟨g, ⟨⟨h21, h22, h23, h24, h25, h26⟩, rfl⟩, rfl⟩
  rw [h21, h22, h23, h24, h25, h26]
  clear h21 h22 h23 h24 h25 h26
  generalize (bits .and .u8 x 1 != 0) = mi
  generalize (bits .and .u8 x 2 != 0) = pl
  generalize (bits .and .u8 x 4 != 0) = sh
  generalize (bits .and .u8 x 8 != 0) = sp
  generalize (bits .and .u8 x 16 != 0) = ze
  generalize (⟨(digs up).toArray⟩ : ByteArray) = S
  obtain ⟨f, hf⟩ : ∃ f : Flags, f = ⟨wp, true, mi, pl, sh, sp, ze, wid, 0⟩ := ⟨_, rfl⟩
  have hM : 0 < w.heap.size := World.block_lt_of_cell? w ⟨0, 0, none⟩ hg1
  have HNF := Lib.hid (newF f wp wid true 0 mi pl sh sp ze hf w)
  have HF := Lib.hid hf
  obtain ⟨G, hG⟩ : ∃ G, G = List.replicate wid.toNat (32 : UInt8) := ⟨_, rfl⟩
  have HREP := Lib.hid (fun W => zzRep 32 wid W (by omega))
  rw [← hG] at HREP
  have HG := Lib.hid hG
  clear hf hG
  go_wp2_with (fail)
  refine HNF.out.mono ?_
  rintro e w1 ⟨F, B, rfl, n1, n2, n3, n4, n5, n6, n7, n8, n9⟩
  have hfr := fresh_of hM n1 n2 n3 n4 n5 n6 n7 n8
  have HI := Lib.hid (zFmtIZ w.heap.size F B f b sg vb S w1 hfr (maxl_below n9 hM hg1) (by rw [HF.out]; exact hw0) (by rw [HF.out]; exact hw1) (by rw [HF.out]) (by rw [HF.out]))
  rw [show List.replicate f.wid.toNat (32 : UInt8) = G by rw [HF.out, HG.out]] at HI
  have HB1 := Lib.hid n9
  clear n1 n2 n3 n4 n5 n6 n7 n8 n9 hfr HNF
  go_wp2_with (fail)
  refine HI.out.mono ?_
  rintro e w2 ⟨rfl, ⟨base, hl2⟩, hb2'⟩
  have HL2 := Lib.hid hl2
  have HB2 : Hid (Below w.heap.size w w2) := Lib.hid (HB1.out.trans hb2')
  clear hl2 hb2' HI HB1
  have HO := Lib.hid (zzOut _ _ F B f _ w2 HL2.out)
  have HZ := Lib.hid (zzZero _ _ F B f _ w2 HL2.out)
  rw [show f.zero = ze by rw [HF.out]] at HZ
  go_wp2_with (fail)
  refine HO.out.mono ?_
  rintro e w' ⟨rfl, rfl⟩
  go_wp2_with (fail)
  refine HZ.out.mono ?_
  rintro e w' ⟨rfl, rfl⟩
  clear HL2 HO HZ
  go_upto_region 22 with (fail)
  refine wp_cut (fun a' w' => ∃ g : Nat → Value, ((g 28 = .string ⟨G.toArray⟩ ∧ g 29 = .bool false) ∧ w2 = w') ∧ a' = ⟨#[.int .u64 0, .int .i64 b, .bool sg, .int .i32 vb, .bool up, .bool wp, .int .i64 wid, .bool true, .int .i64 0, .int .u8 x, g 10, g 11, g 12, g 13, g 14, g 15, g 16, g 17, g 18, g 19, g 20, g 21, g 22, g 23, g 24, g 25, g 26, g 27, g 28, g 29, g 30, g 31, g 32, g 33, g 34, g 35, g 36, g 37, g 38, g 39, g 40, g 41, g 42, g 43, g 44, g 45, g 46, g 47, g 48, g 49, g 50, g 51, g 52, g 53, g 54, g 55, g 56, g 57, g 58, g 59, g 60, g 61, g 62, g 63, g 64, g 65, g 66, g 67, g 68, g 69, g 70, g 71, g 72, g 73, g 74, g 75, g 76, g 77, g 78, g 79, g 80, g 81, g 82, g 83, g 84, g 85, g 86, g 87, g 88, g 89, g 90, g 91, g 92, g 93, g 94, g 95, g 96, g 97, g 98, g 99, g 100, g 101, g 102, g 103, g 104, g 105, g 106, g 107, g 108, g 109, g 110, g 111, g 112, g 113, g 114, g 115, g 116, g 117, g 118, g 119, g 120, g 121, g 122, g 123, g 124, g 125, g 126, g 127, g 128, g 129, g 130, g 131, g 132, g 133, g 134, g 135, g 136, g 137, g 138, g 139, g 140, g 141, g 142, g 143, g 144, g 145, g 146, g 147, g 148, g 149, g 150, g 151, g 152, g 153, g 154, g 155, g 156, g 157, g 158, g 159, g 160, g 161, g 162, g 163, g 164, g 165, g 166, g 167, g 168, g 169, g 170, g 171, g 172, g 173, g 174, g 175, g 176, g 177, g 178, g 179, g 180, g 181, g 182, g 183, g 184, g 185, g 186, g 187, g 188, g 189, g 190, g 191, g 192, g 193, g 194, g 195, g 196, g 197, g 198, g 199, g 200], []⟩) ?rest ?first
  case first =>
    intro _ _ _ _
    cases sg
    all_goals
      go_wp2
      refine Met.intro ?_
      go_step
      refine meetG (by kernel_rfl) ?_
      exact ⟨⟨rfl, rfl⟩, rfl⟩
  case rest =>
  rintro _ wc ⟨g, ⟨⟨h28, h29⟩, rfl⟩, rfl⟩
  rw [h28, h29]
  clear h28 h29
  go_wp2_with (fail)
  refine (HREP.out _).mono ?_
  rintro e w3 ⟨rfl, hb⟩
  have HB3 : Hid (Below w.heap.size w w3) := Lib.hid (HB2.out.trans (hb.mono HB2.out.size))
  clear hb HB2
  go_wp2
  go_ret
  exact ⟨rfl, HB3.out⟩
set_option maxRecDepth 100000 in
set_option maxHeartbeats 2000000 in
theorem isLaw (u : Int) (b : Int) (sg : Bool) (vb : Int) (up wp : Bool) (wid : Int) (pp : Bool) (prec x : Int) (w : World) (hg1 : w.cell? ⟨0, 0, none⟩ = some (.int .i64 2147483647)) (hu0 : 0 ≤ u) (hu1 : u ≤ 18446744073709551615) :
    Calls Tryd.prog 5 #[.int .u64 u, .int .i64 b, .bool sg, .int .i32 vb, .bool up, .bool wp, .int .i64 wid, .bool pp, .int .i64 prec, .int .u8 x] w fun e w' => e = .returned (.bool true) ∧ Below w.heap.size w w' := by
  by_cases hw0 : wid < 0
  · clear hg1
    go_enter Tryd.func5, Tryd.ntmps5
    go_wp2
    go_ret
    exact ⟨rfl, Below.refl _ _⟩
  by_cases hw1 : 65536 < wid
  · clear hg1
    go_enter Tryd.func5, Tryd.ntmps5
    go_wp2
    go_ret
    exact ⟨rfl, Below.refl _ _⟩
  by_cases h0 : prec < 0
  · clear hg1
    go_enter Tryd.func5, Tryd.ntmps5
    go_wp2
    go_ret
    exact ⟨rfl, Below.refl _ _⟩
  by_cases h1 : 65536 < prec
  · clear hg1
    go_enter Tryd.func5, Tryd.ntmps5
    go_wp2
    go_ret
    exact ⟨rfl, Below.refl _ _⟩
  by_cases hb : b = 2 ∨ b = 8 ∨ b = 10 ∨ b = 16
  · by_cases hv : vb = 79 ∧ b ≠ 8
    · obtain ⟨rfl, hb8⟩ := hv
      have e8 : (b == 8) = false := by simpa using hb8
      clear hg1 hb8
      rcases hb with rfl | rfl | rfl | rfl
      · go_enter Tryd.func5, Tryd.ntmps5
        go_wp2
        go_ret
        exact ⟨rfl, Below.refl _ _⟩
      · cases e8
      · go_enter Tryd.func5, Tryd.ntmps5
        go_wp2
        go_ret
        exact ⟨rfl, Below.refl _ _⟩
      · go_enter Tryd.func5, Tryd.ntmps5
        go_wp2
        go_ret
        exact ⟨rfl, Below.refl _ _⟩
    · obtain ⟨n, rfl⟩ := Int.eq_ofNat_of_zero_le (show 0 ≤ b by omega)
      have hbn : n = 2 ∨ n = 8 ∨ n = 10 ∨ n = 16 := by omega
      have hv8 : vb = 79 → n = 8 := fun e => by
        have : (n : Int) = 8 := Decidable.byContradiction fun h => hv ⟨e, h⟩
        omega
      obtain ⟨neg, m, hmag⟩ := mag_ex u sg hu0 hu1
      by_cases hz : pp = true ∧ prec = 0 ∧ m = 0
      · obtain ⟨rfl, rfl, rfl⟩ := hz
        obtain rfl : u = 0 := by
          rcases hmag with ⟨_, _, h⟩ | ⟨_, _, h, _⟩ | ⟨_, _, _, h, _⟩
          · exact h
          · exact h
          · omega
        exact isZero n sg vb up wp wid x w hg1 (by omega) (by omega) hbn hv8
      · exact isMain u n sg vb up wp wid pp prec x neg m w hg1 hu0 hu1 (by omega) (by omega) (by omega) (by omega) hbn hv8 hmag (fun h2 h3 => Nat.pos_of_ne_zero fun h4 => hz ⟨h2, h3, h4⟩)
  · have e2 : (b != 2) = true := by simp; omega
    have e8 : (b != 8) = true := by simp; omega
    have e10 : (b != 10) = true := by simp; omega
    have e16 : (b != 16) = true := by simp; omega
    clear hg1 hb
    go_enter Tryd.func5, Tryd.ntmps5
    go_wp2
    go_ret
    exact ⟨rfl, Below.refl _ _⟩
end Go.Proofs.YtfpjkkjhdblmkaaDoor.Fm
namespace Go.Proofs.YtfpjkkjhdblmkaaDoor
set_option linter.unusedSimpArgs false
open Fm
theorem fnIntegerSpec.walk (a0 : Int) (a1 : Int) (a2 : Bool) (a3 : Int) (a4 : Bool) (a5 : Bool) (a6 : Int) (a7 : Bool) (a8 : Int) (a9 : Int) (w : World) (w0 : (Lit.int .u64 a0).wf = true) (_w1 : (Lit.int .i64 a1).wf = true) (_w3 : (Lit.int .i32 a3).wf = true) (_w6 : (Lit.int .i64 a6).wf = true) (_w8 : (Lit.int .i64 a8).wf = true) (_w9 : (Lit.int .u8 a9).wf = true) (hL : laidMetH Tryd.prog Rows.fnIntegerSpecRow.laid w) :
    Calls Tryd.prog 5 #[.int .u64 a0, .int .i64 a1, .bool a2, .int .i32 a3, .bool a4, .bool a5, .int .i64 a6, .bool a7, .int .i64 a8, .int .u8 a9] w fun e w' => e = .returned (.bool true) ∧ RowKit.Below w.heap.size w w' := by
  rw [MakeChecks.laidMetH_plain _ _ _ (by kernel_rfl)] at hL
  exact isLaw a0 a1 a2 a3 a4 a5 a6 a7 a8 a9 w (maxl_at hL (by simp [Rows.fnIntegerSpecRow, Rows.laid_github_com_d5_tengo_v2_MaxStringLen])) (u64_wf w0).1 (u64_wf w0).2
end Go.Proofs.YtfpjkkjhdblmkaaDoor
