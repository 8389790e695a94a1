/- The law FnIntegerSpec: its walk where something is printed. -/
import Derived.Test.YtfpjkkjhdblmkaaDoorIsL
import Derived.Test.YtfpjkkjhdblmkaaDoorFrame
namespace Go.Proofs.YtfpjkkjhdblmkaaDoor.Fm
open Go.ChangeShapes Go.WideShapes Go.ChangeAt Go.RowKit Go.Fmt Go.Num

set_option maxRecDepth 100000 in
set_option maxHeartbeats 4000000 in
theorem isMain (u : Int) (b : Nat) (sg : Bool) (vb : Int) (up wp : Bool) (wid : Int) (pp : Bool) (prec x : Int) (neg : Bool) (m : Nat) (w : World) (hg1 : w.cell? ⟨0, 0, none⟩ = some (.int .i64 2147483647))
    (hu0 : 0 ≤ u) (hu1 : u ≤ 18446744073709551615) (hw0 : 0 ≤ wid) (hw1 : wid ≤ 65536) (hp0 : 0 ≤ prec) (hp1 : prec ≤ 65536) (hb : b = 2 ∨ b = 8 ∨ b = 10 ∨ b = 16) (hvb8 : vb = 79 → b = 8) (hn : Mag u sg neg m) (hnz : pp = true → prec = 0 → 0 < m) :
    Calls Tryd.prog 5 #[.int .u64 u, .int .i64 b, .bool sg, .int .i32 vb, .bool up, .bool wp, .int .i64 wid, .bool pp, .int .i64 prec, .int .u8 x] w fun e w' => e = .returned (.bool true) ∧ Below w.heap.size w w' := by
  have HN := Lib.hid hn
  have HNZ := Lib.hid hnz
  have HB := Lib.hid hb
  have HV := Lib.hid hvb8
  clear hn hnz hb hvb8
  go_enter Tryd.func5, Tryd.ntmps5
  go_upto_region 5 with (fail)
  refine wp_cut (fun a' w' => ∃ g : Nat → Value, ((g 59 = .bool false) ∧ w = w') ∧ a' = ⟨#[.int .u64 u, .int .i64 b, .bool sg, .int .i32 vb, .bool up, .bool wp, .int .i64 wid, .bool pp, .int .i64 prec, .int .u8 x, g 10, g 11, g 12, g 13, g 14, g 15, g 16, g 17, g 18, g 19, g 20, g 21, g 22, g 23, g 24, g 25, g 26, g 27, g 28, g 29, g 30, g 31, g 32, g 33, g 34, g 35, g 36, g 37, g 38, g 39, g 40, g 41, g 42, g 43, g 44, g 45, g 46, g 47, g 48, g 49, g 50, g 51, g 52, g 53, g 54, g 55, g 56, g 57, g 58, g 59, g 60, g 61, g 62, g 63, g 64, g 65, g 66, g 67, g 68, g 69, g 70, g 71, g 72, g 73, g 74, g 75, g 76, g 77, g 78, g 79, g 80, g 81, g 82, g 83, g 84, g 85, g 86, g 87, g 88, g 89, g 90, g 91, g 92, g 93, g 94, g 95, g 96, g 97, g 98, g 99, g 100, g 101, g 102, g 103, g 104, g 105, g 106, g 107, g 108, g 109, g 110, g 111, g 112, g 113, g 114, g 115, g 116, g 117, g 118, g 119, g 120, g 121, g 122, g 123, g 124, g 125, g 126, g 127, g 128, g 129, g 130, g 131, g 132, g 133, g 134, g 135, g 136, g 137, g 138, g 139, g 140, g 141, g 142, g 143, g 144, g 145, g 146, g 147, g 148, g 149, g 150, g 151, g 152, g 153, g 154, g 155, g 156, g 157, g 158, g 159, g 160, g 161, g 162, g 163, g 164, g 165, g 166, g 167, g 168, g 169, g 170, g 171, g 172, g 173, g 174, g 175, g 176, g 177, g 178, g 179, g 180, g 181, g 182, g 183, g 184, g 185, g 186, g 187, g 188, g 189, g 190, g 191, g 192, g 193, g 194, g 195, g 196, g 197, g 198, g 199, g 200], []⟩) ?rest ?first
  case first =>
    intro _ _ _ _
    rcases HB.out with rfl | rfl | rfl | rfl
    all_goals
      go_wp2
      refine Met.intro ?_
      go_step
      refine meetG (by kernel_rfl) ?_
      exact ⟨rfl, rfl⟩
  case rest =>
  rintro _ wc ⟨g, ⟨h59, rfl⟩, rfl⟩
  rw [h59]
  clear h59
  go_upto_region 7 with (fail)
  refine wp_cut (fun a' w' => ∃ g : Nat → Value, ((g 65 = .bool false) ∧ w = w') ∧ a' = ⟨#[.int .u64 u, .int .i64 b, .bool sg, .int .i32 vb, .bool up, .bool wp, .int .i64 wid, .bool pp, .int .i64 prec, .int .u8 x, g 10, g 11, g 12, g 13, g 14, g 15, g 16, g 17, g 18, g 19, g 20, g 21, g 22, g 23, g 24, g 25, g 26, g 27, g 28, g 29, g 30, g 31, g 32, g 33, g 34, g 35, g 36, g 37, g 38, g 39, g 40, g 41, g 42, g 43, g 44, g 45, g 46, g 47, g 48, g 49, g 50, g 51, g 52, g 53, g 54, g 55, g 56, g 57, g 58, g 59, g 60, g 61, g 62, g 63, g 64, g 65, g 66, g 67, g 68, g 69, g 70, g 71, g 72, g 73, g 74, g 75, g 76, g 77, g 78, g 79, g 80, g 81, g 82, g 83, g 84, g 85, g 86, g 87, g 88, g 89, g 90, g 91, g 92, g 93, g 94, g 95, g 96, g 97, g 98, g 99, g 100, g 101, g 102, g 103, g 104, g 105, g 106, g 107, g 108, g 109, g 110, g 111, g 112, g 113, g 114, g 115, g 116, g 117, g 118, g 119, g 120, g 121, g 122, g 123, g 124, g 125, g 126, g 127, g 128, g 129, g 130, g 131, g 132, g 133, g 134, g 135, g 136, g 137, g 138, g 139, g 140, g 141, g 142, g 143, g 144, g 145, g 146, g 147, g 148, g 149, g 150, g 151, g 152, g 153, g 154, g 155, g 156, g 157, g 158, g 159, g 160, g 161, g 162, g 163, g 164, g 165, g 166, g 167, g 168, g 169, g 170, g 171, g 172, g 173, g 174, g 175, g 176, g 177, g 178, g 179, g 180, g 181, g 182, g 183, g 184, g 185, g 186, g 187, g 188, g 189, g 190, g 191, g 192, g 193, g 194, g 195, g 196, g 197, g 198, g 199, g 200], []⟩) ?rest ?first
  case first =>
    intro _ _ _ _
    by_cases hv : vb = 79
    · obtain rfl := HV.out hv
      subst hv
      go_wp2
      refine Met.intro ?_
      go_step
      refine meetG (by kernel_rfl) ?_
      exact ⟨rfl, rfl⟩
    · have hvf : (vb == 79) = false := by simpa using hv
      clear hv
      go_wp2
      refine Met.intro ?_
      go_step
      refine meetG (by kernel_rfl) ?_
      exact ⟨rfl, rfl⟩
  case rest =>
  rintro _ wc ⟨g, ⟨h65, rfl⟩, rfl⟩
  rw [h65]
  clear h65
  go_upto_if 81 with (fail)
  refine wp_cut (fun a' w' => ∃ g : Nat → Value, ((g 21 = .bool (bits .and .u8 x 1 != 0) ∧ g 22 = .bool (bits .and .u8 x 2 != 0) ∧ g 23 = .bool (bits .and .u8 x 4 != 0) ∧ g 24 = .bool (bits .and .u8 x 8 != 0) ∧ g 25 = .bool (bits .and .u8 x 16 != 0) ∧ g 26 = .string ⟨(digs up).toArray⟩) ∧ w = w') ∧ a' = ⟨#[.int .u64 u, .int .i64 b, .bool sg, .int .i32 vb, .bool up, .bool wp, .int .i64 wid, .bool pp, .int .i64 prec, .int .u8 x, g 10, g 11, g 12, g 13, g 14, g 15, g 16, g 17, g 18, g 19, g 20, g 21, g 22, g 23, g 24, g 25, g 26, g 27, g 28, g 29, g 30, g 31, g 32, g 33, g 34, g 35, g 36, g 37, g 38, g 39, g 40, g 41, g 42, g 43, g 44, g 45, g 46, g 47, g 48, g 49, g 50, g 51, g 52, g 53, g 54, g 55, g 56, g 57, g 58, g 59, g 60, g 61, g 62, g 63, g 64, g 65, g 66, g 67, g 68, g 69, g 70, g 71, g 72, g 73, g 74, g 75, g 76, g 77, g 78, g 79, g 80, g 81, g 82, g 83, g 84, g 85, g 86, g 87, g 88, g 89, g 90, g 91, g 92, g 93, g 94, g 95, g 96, g 97, g 98, g 99, g 100, g 101, g 102, g 103, g 104, g 105, g 106, g 107, g 108, g 109, g 110, g 111, g 112, g 113, g 114, g 115, g 116, g 117, g 118, g 119, g 120, g 121, g 122, g 123, g 124, g 125, g 126, g 127, g 128, g 129, g 130, g 131, g 132, g 133, g 134, g 135, g 136, g 137, g 138, g 139, g 140, g 141, g 142, g 143, g 144, g 145, g 146, g 147, g 148, g 149, g 150, g 151, g 152, g 153, g 154, g 155, g 156, g 157, g 158, g 159, g 160, g 161, g 162, g 163, g 164, g 165, g 166, g 167, g 168, g 169, g 170, g 171, g 172, g 173, g 174, g 175, g 176, g 177, g 178, g 179, g 180, g 181, g 182, g 183, g 184, g 185, g 186, g 187, g 188, g 189, g 190, g 191, g 192, g 193, g 194, g 195, g 196, g 197, g 198, g 199, g 200], []⟩) ?rest ?first
  case first =>
    intro _ _ _ _
    cases up
    all_goals
      go_wp2
      refine Met.intro ?_
      go_step
      refine meetG (by kernel_rfl) ?_
      exact ⟨⟨rfl, rfl, rfl, rfl, rfl, rfl⟩, rfl⟩
  case rest =>
  rintro _ wc ⟨g, ⟨⟨h21, h22, h23, h24, h25, h26⟩, rfl⟩, rfl⟩
  rw [h21, h22, h23, h24, h25, h26]
  clear h21 h22 h23 h24 h25 h26
  generalize (bits .and .u8 x 1 != 0) = mi
  generalize (bits .and .u8 x 2 != 0) = pl
  generalize (bits .and .u8 x 4 != 0) = sh
  generalize (bits .and .u8 x 8 != 0) = sp
  generalize (bits .and .u8 x 16 != 0) = ze
  obtain ⟨S, hS⟩ : ∃ S, S = (⟨(digs up).toArray⟩ : ByteArray) := ⟨_, rfl⟩
  rw [← hS]
  obtain ⟨f, hf⟩ : ∃ f : Flags, f = ⟨wp, pp, mi, pl, sh, sp, ze, wid, prec⟩ := ⟨_, rfl⟩
  have hM : 0 < w.heap.size := World.block_lt_of_cell? w ⟨0, 0, none⟩ hg1
  have HNF := Lib.hid (newF f wp wid pp prec mi pl sh sp ze hf w)
  obtain ⟨G, hG⟩ : ∃ G, G = outB f neg vb b up m := ⟨_, rfl⟩
  have HF := Lib.hid hf
  have HS := Lib.hid hS
  have HG := Lib.hid hG
  have hm64 : m ≤ 18446744073709551615 := by
    rcases HN.out with ⟨_, _, h⟩ | ⟨_, _, h, _⟩ | ⟨_, _, h, h2, h3⟩ <;> omega
  have hb2 : 2 ≤ b := by rcases HB.out with h | h | h | h <;> omega
  have hb16 : b ≤ 16 := by rcases HB.out with h | h | h | h <;> omega
  obtain ⟨R, hR⟩ : ∃ R, R = repr b (digs up) m := ⟨_, rfl⟩
  have hRl : 1 ≤ R.length ∧ R.length ≤ 64 := by rw [hR]; exact repr_len hb2 (by omega)
  have hR1 := hRl.1
  have hR64 := hRl.2
  obtain ⟨P, hP⟩ : ∃ P, P = prec0 f neg := ⟨_, rfl⟩
  have hPl : -1 ≤ P ∧ P ≤ 65536 := by
    rw [hP, hf]; unfold prec0
    repeat' split
    all_goals simp
    all_goals omega
  have hPlo := hPl.1
  have hPhi := hPl.2
  obtain ⟨Z, hZ⟩ : ∃ Z, Z = List.replicate (P.toNat - R.length) (48 : UInt8) := ⟨_, rfl⟩
  obtain ⟨N0, hN0⟩ : ∃ N0, N0 = fillB P.toNat R := ⟨_, rfl⟩
  obtain ⟨N1, hN1⟩ : ∃ N1, N1 = preB sh b (digs up) N0 := ⟨_, rfl⟩
  obtain ⟨N2, hN2⟩ : ∃ N2, N2 = verbB (decide (vb = 79)) N1 := ⟨_, rfl⟩
  obtain ⟨N3, hN3⟩ : ∃ N3, N3 = signB neg pl sp N2 := ⟨_, rfl⟩
  have hNum : N3 = numB neg f.plus f.space f.sharp (decide (vb = 79)) b (digs up) P.toNat m := by rw [hN3, hN2, hN1, hN0, hR, hf]; rfl
  have HGZ : Hid (G = zp N3 (N3.length : Int) wp wid mi 32) := Lib.hid (by
    rw [hG, out_zp f neg vb b up m N3 (by rw [hNum, hP]), hf])
  have l0 : N0.length ≤ 65600 := by rw [hN0, fillB_length]; omega
  have l0' : 1 ≤ N0.length := by rw [hN0, fillB_length]; omega
  have l1 : N1.length ≤ 65602 := by have := preB_length sh b (digs up) N0; rw [hN1]; omega
  have l2 : N2.length ≤ 65604 := by have := verbB_length (decide (vb = 79)) N1; rw [hN2]; omega
  have l3 : N3.length ≤ 65605 := by have := signB_length neg pl sp N2; rw [hN3]; omega
  have lZ : Z.length ≤ 65600 := by rw [hZ]; simp; omega
  have HC0 : Hid ((⟨Z.toArray⟩ ++ ⟨R.toArray⟩ : ByteArray) = ⟨N0.toArray⟩) := Lib.hid (by rw [hN0, hZ]; exact cat_bytes _ _)
  have HREP := Lib.hid (fun W => zzRep 48 (P - (R.length : Int)) W (by omega))
  rw [show (P - (R.length : Int)).toNat = P.toNat - R.length by omega, ← hZ] at HREP
  have HRPR := Lib.hid (fun W => zzRepr m b S up W hb2 hb16 hm64 hS)
  rw [← hR] at HRPR
  have HPAD := Lib.hid (fun W => zzPad N3 (N3.length : Int) wp wid mi 32 W (by omega) (by omega) hw0 hw1 (by omega))
  rw [← HGZ.out] at HPAD
  have HP := Lib.hid hP
  have HN1 := Lib.hid hN1
  have HN2 := Lib.hid hN2
  have HN3 := Lib.hid hN3
  clear hf hS hG hRl hPl hR hP hZ hN0 hN1 hN2 hN3 hNum HGZ
  go_wp2_with (fail)
  refine HNF.out.mono ?_
  rintro e w1 ⟨F, B, rfl, n1, n2, n3, n4, n5, n6, n7, n8, n9⟩
  have hfr := fresh_of hM n1 n2 n3 n4 n5 n6 n7 n8
  have HI := Lib.hid (zFmtI w.heap.size F B f u b sg neg m vb up S w1 hfr HB.out HS.out HV.out (maxl_below n9 hM hg1) hu0 hu1 HN.out (by rw [HF.out]; exact hw0) (by rw [HF.out]; exact hw1) (by rw [HF.out]; exact hp0) (by rw [HF.out]; exact hp1) (by rw [HF.out]; exact HNZ.out))
  rw [← HG.out] at HI
  have HB1 := Lib.hid n9
  clear n1 n2 n3 n4 n5 n6 n7 n8 n9 hfr HNF
  go_wp2_with (fail)
  refine HI.out.mono ?_
  rintro e w2 ⟨rfl, ⟨base, hl2⟩, hb2'⟩
  have HL2 := Lib.hid hl2
  have HB2 : Hid (Below w.heap.size w w2) := Lib.hid (HB1.out.trans hb2')
  clear hl2 hb2' HI HB1
  have HO := Lib.hid (zzOut _ _ F B f _ w2 HL2.out)
  have HZ := Lib.hid (zzZero _ _ F B f _ w2 HL2.out)
  rw [show f.zero = ze by rw [HF.out]] at HZ
  go_wp2_with (fail)
  refine HO.out.mono ?_
  rintro e w' ⟨rfl, rfl⟩
  go_wp2_with (fail)
  refine HZ.out.mono ?_
  rintro e w' ⟨rfl, rfl⟩
  clear HL2 HO HZ
  go_upto_region 22 with (fail)
  refine wp_cut (fun a' w' => ∃ g : Nat → Value, ((g 21 = .bool mi ∧ g 22 = .bool pl ∧ g 23 = .bool sh ∧ g 24 = .bool sp ∧ g 25 = .bool ze ∧ g 26 = .string S ∧ g 28 = .string ⟨G.toArray⟩ ∧ g 29 = .bool neg) ∧ w2 = w') ∧ a' = ⟨#[.int .u64 u, .int .i64 b, .bool sg, .int .i32 vb, .bool up, .bool wp, .int .i64 wid, .bool pp, .int .i64 prec, .int .u8 x, g 10, g 11, g 12, g 13, g 14, g 15, g 16, g 17, g 18, g 19, g 20, g 21, g 22, g 23, g 24, g 25, g 26, g 27, g 28, g 29, g 30, g 31, g 32, g 33, g 34, g 35, g 36, g 37, g 38, g 39, g 40, g 41, g 42, g 43, g 44, g 45, g 46, g 47, g 48, g 49, g 50, g 51, g 52, g 53, g 54, g 55, g 56, g 57, g 58, g 59, g 60, g 61, g 62, g 63, g 64, g 65, g 66, g 67, g 68, g 69, g 70, g 71, g 72, g 73, g 74, g 75, g 76, g 77, g 78, g 79, g 80, g 81, g 82, g 83, g 84, g 85, g 86, g 87, g 88, g 89, g 90, g 91, g 92, g 93, g 94, g 95, g 96, g 97, g 98, g 99, g 100, g 101, g 102, g 103, g 104, g 105, g 106, g 107, g 108, g 109, g 110, g 111, g 112, g 113, g 114, g 115, g 116, g 117, g 118, g 119, g 120, g 121, g 122, g 123, g 124, g 125, g 126, g 127, g 128, g 129, g 130, g 131, g 132, g 133, g 134, g 135, g 136, g 137, g 138, g 139, g 140, g 141, g 142, g 143, g 144, g 145, g 146, g 147, g 148, g 149, g 150, g 151, g 152, g 153, g 154, g 155, g 156, g 157, g 158, g 159, g 160, g 161, g 162, g 163, g 164, g 165, g 166, g 167, g 168, g 169, g 170, g 171, g 172, g 173, g 174, g 175, g 176, g 177, g 178, g 179, g 180, g 181, g 182, g 183, g 184, g 185, g 186, g 187, g 188, g 189, g 190, g 191, g 192, g 193, g 194, g 195, g 196, g 197, g 198, g 199, g 200], []⟩) ?rest ?first
  case first =>
    intro _ _ _ _
    rcases HN.out with ⟨rfl, rfl, hu⟩ | ⟨rfl, rfl, hu, hl⟩ | ⟨rfl, rfl, hu, hl, hl2⟩
    · clear hu
      go_wp2
      refine Met.intro ?_
      go_step
      refine meetG (by kernel_rfl) ?_
      exact ⟨⟨rfl, rfl, rfl, rfl, rfl, rfl, rfl, rfl⟩, rfl⟩
    · have hw : IntKind.i64.wrap u = u := IntWalk.i64_in _ (by omega)
      have hd : decide (u < 0) = false := by simp; omega
      clear hu
      go_wp2
      refine Met.intro ?_
      go_step
      refine meetG (by kernel_rfl) ?_
      exact ⟨⟨rfl, rfl, rfl, rfl, rfl, rfl, rfl, rfl⟩, rfl⟩
    · have hw := i64_hi u (by omega) hu1
      have hd : decide (u - 18446744073709551616 < 0) = true := by simp; omega
      clear hu
      go_wp2
      refine Met.intro ?_
      go_step
      refine meetG (by kernel_rfl) ?_
      exact ⟨⟨rfl, rfl, rfl, rfl, rfl, rfl, rfl, rfl⟩, rfl⟩
  case rest =>
  rintro _ wc ⟨g, ⟨⟨h21, h22, h23, h24, h25, h26, h28, h29⟩, rfl⟩, rfl⟩
  rw [h21, h22, h23, h24, h25, h26, h28, h29]
  clear h21 h22 h23 h24 h25 h26 h28 h29
  go_upto_if 112 with (fail)
  refine wp_cut (fun a' w' => ∃ g : Nat → Value, ((g 21 = .bool mi ∧ g 22 = .bool pl ∧ g 23 = .bool sh ∧ g 24 = .bool sp ∧ g 25 = .bool ze ∧ g 26 = .string S ∧ g 28 = .string ⟨G.toArray⟩ ∧ g 29 = .bool neg ∧ g 30 = .int .u64 m) ∧ w2 = w') ∧ a' = ⟨#[.int .u64 u, .int .i64 b, .bool sg, .int .i32 vb, .bool up, .bool wp, .int .i64 wid, .bool pp, .int .i64 prec, .int .u8 x, g 10, g 11, g 12, g 13, g 14, g 15, g 16, g 17, g 18, g 19, g 20, g 21, g 22, g 23, g 24, g 25, g 26, g 27, g 28, g 29, g 30, g 31, g 32, g 33, g 34, g 35, g 36, g 37, g 38, g 39, g 40, g 41, g 42, g 43, g 44, g 45, g 46, g 47, g 48, g 49, g 50, g 51, g 52, g 53, g 54, g 55, g 56, g 57, g 58, g 59, g 60, g 61, g 62, g 63, g 64, g 65, g 66, g 67, g 68, g 69, g 70, g 71, g 72, g 73, g 74, g 75, g 76, g 77, g 78, g 79, g 80, g 81, g 82, g 83, g 84, g 85, g 86, g 87, g 88, g 89, g 90, g 91, g 92, g 93, g 94, g 95, g 96, g 97, g 98, g 99, g 100, g 101, g 102, g 103, g 104, g 105, g 106, g 107, g 108, g 109, g 110, g 111, g 112, g 113, g 114, g 115, g 116, g 117, g 118, g 119, g 120, g 121, g 122, g 123, g 124, g 125, g 126, g 127, g 128, g 129, g 130, g 131, g 132, g 133, g 134, g 135, g 136, g 137, g 138, g 139, g 140, g 141, g 142, g 143, g 144, g 145, g 146, g 147, g 148, g 149, g 150, g 151, g 152, g 153, g 154, g 155, g 156, g 157, g 158, g 159, g 160, g 161, g 162, g 163, g 164, g 165, g 166, g 167, g 168, g 169, g 170, g 171, g 172, g 173, g 174, g 175, g 176, g 177, g 178, g 179, g 180, g 181, g 182, g 183, g 184, g 185, g 186, g 187, g 188, g 189, g 190, g 191, g 192, g 193, g 194, g 195, g 196, g 197, g 198, g 199, g 200], []⟩) ?rest ?first
  case first =>
    intro _ _ _ _
    rcases HN.out with ⟨rfl, rfl, hu⟩ | ⟨rfl, rfl, hu, hl⟩ | ⟨rfl, rfl, hu, hl, hl2⟩
    · have HU := Lib.hid hu
      clear hu
      go_wp2
      refine Met.intro ?_
      go_step
      refine meetG (by kernel_rfl) ?_
      exact ⟨⟨rfl, rfl, rfl, rfl, rfl, rfl, rfl, rfl, by rw [← HU.out]; rfl⟩, rfl⟩
    · have HU := Lib.hid hu
      clear hu
      go_wp2
      refine Met.intro ?_
      go_step
      refine meetG (by kernel_rfl) ?_
      exact ⟨⟨rfl, rfl, rfl, rfl, rfl, rfl, rfl, rfl, by rw [← HU.out]; rfl⟩, rfl⟩
    · obtain ⟨s0, hs0⟩ : ∃ s0 : Int, s0 = u - 18446744073709551616 := ⟨_, rfl⟩
      obtain ⟨s1, hs1⟩ : ∃ s1 : Int, s1 = s0 + 1 := ⟨_, rfl⟩
      obtain ⟨s2, hs2⟩ : ∃ s2 : Int, s2 = -s1 := ⟨_, rfl⟩
      have e1 : IntKind.i64.wrap u = s0 := by rw [hs0]; exact i64_hi u (by omega) hu1
      have e2 : IntKind.i64.wrap (s0 + 1) = s1 := by rw [← hs1]; exact IntWalk.i64_in _ (by omega)
      have e3 : IntKind.i64.wrap (-s1) = s2 := by rw [← hs2]; exact IntWalk.i64_in _ (by omega)
      have e4 : IntKind.u64.wrap s2 = s2 := IntWalk.u64_in _ (by omega)
      have e5 : IntKind.u64.wrap (s2 + 1) = (m : Int) := by rw [show s2 + 1 = (m : Int) by omega]; exact IntWalk.u64_in _ (by omega)
      clear hu hl hl2 hs0 hs1 hs2
      go_wp2
      refine Met.intro ?_
      go_step
      refine meetG (by kernel_rfl) ?_
      exact ⟨⟨rfl, rfl, rfl, rfl, rfl, rfl, rfl, rfl, rfl⟩, rfl⟩
  case rest =>
  rintro _ wc ⟨g, ⟨⟨h21, h22, h23, h24, h25, h26, h28, h29, h30⟩, rfl⟩, rfl⟩
  rw [h21, h22, h23, h24, h25, h26, h28, h29, h30]
  clear h21 h22 h23 h24 h25 h26 h28 h29 h30
  go_upto_region 26 with (fail)
  refine wp_cut (fun a' w' => ∃ g : Nat → Value, ((g 21 = .bool mi ∧ g 22 = .bool pl ∧ g 23 = .bool sh ∧ g 24 = .bool sp ∧ g 25 = .bool ze ∧ g 26 = .string S ∧ g 28 = .string ⟨G.toArray⟩ ∧ g 29 = .bool neg ∧ g 30 = .int .u64 m ∧ g 127 = .bool false) ∧ w2 = w') ∧ a' = ⟨#[.int .u64 u, .int .i64 b, .bool sg, .int .i32 vb, .bool up, .bool wp, .int .i64 wid, .bool pp, .int .i64 prec, .int .u8 x, g 10, g 11, g 12, g 13, g 14, g 15, g 16, g 17, g 18, g 19, g 20, g 21, g 22, g 23, g 24, g 25, g 26, g 27, g 28, g 29, g 30, g 31, g 32, g 33, g 34, g 35, g 36, g 37, g 38, g 39, g 40, g 41, g 42, g 43, g 44, g 45, g 46, g 47, g 48, g 49, g 50, g 51, g 52, g 53, g 54, g 55, g 56, g 57, g 58, g 59, g 60, g 61, g 62, g 63, g 64, g 65, g 66, g 67, g 68, g 69, g 70, g 71, g 72, g 73, g 74, g 75, g 76, g 77, g 78, g 79, g 80, g 81, g 82, g 83, g 84, g 85, g 86, g 87, g 88, g 89, g 90, g 91, g 92, g 93, g 94, g 95, g 96, g 97, g 98, g 99, g 100, g 101, g 102, g 103, g 104, g 105, g 106, g 107, g 108, g 109, g 110, g 111, g 112, g 113, g 114, g 115, g 116, g 117, g 118, g 119, g 120, g 121, g 122, g 123, g 124, g 125, g 126, g 127, g 128, g 129, g 130, g 131, g 132, g 133, g 134, g 135, g 136, g 137, g 138, g 139, g 140, g 141, g 142, g 143, g 144, g 145, g 146, g 147, g 148, g 149, g 150, g 151, g 152, g 153, g 154, g 155, g 156, g 157, g 158, g 159, g 160, g 161, g 162, g 163, g 164, g 165, g 166, g 167, g 168, g 169, g 170, g 171, g 172, g 173, g 174, g 175, g 176, g 177, g 178, g 179, g 180, g 181, g 182, g 183, g 184, g 185, g 186, g 187, g 188, g 189, g 190, g 191, g 192, g 193, g 194, g 195, g 196, g 197, g 198, g 199, g 200], []⟩) ?rest ?first
  case first =>
    intro _ _ _ _
    have hnz := HNZ.out
    cases pp
    · clear hnz
      go_wp2
      refine Met.intro ?_
      go_step
      refine meetG (by kernel_rfl) ?_
      exact ⟨⟨rfl, rfl, rfl, rfl, rfl, rfl, rfl, rfl, rfl, rfl⟩, rfl⟩
    · by_cases hz : prec = 0
      · subst hz
        have hmp : ((m : Int) == 0) = false := by have := hnz rfl rfl; simp; omega
        clear hnz
        go_wp2
        refine Met.intro ?_
        go_step
        refine meetG (by kernel_rfl) ?_
        exact ⟨⟨rfl, rfl, rfl, rfl, rfl, rfl, rfl, rfl, rfl, rfl⟩, rfl⟩
      · have hzf : (prec == 0) = false := by simpa using hz
        clear hnz hz
        go_wp2
        refine Met.intro ?_
        go_step
        refine meetG (by kernel_rfl) ?_
        exact ⟨⟨rfl, rfl, rfl, rfl, rfl, rfl, rfl, rfl, rfl, rfl⟩, rfl⟩
  case rest =>
  rintro _ wc ⟨g, ⟨⟨h21, h22, h23, h24, h25, h26, h28, h29, h30, h127⟩, rfl⟩, rfl⟩
  rw [h21, h22, h23, h24, h25, h26, h28, h29, h30, h127]
  clear h21 h22 h23 h24 h25 h26 h28 h29 h30 h127
  go_wp2_with (fail)
  refine (HRPR.out _).mono ?_
  rintro e w3 ⟨rfl, hb⟩
  have HB3 : Hid (Below w.heap.size w w3) := Lib.hid (HB2.out.trans (hb.mono HB2.out.size))
  clear hb HB2
  go_upto_if 137 with (fail)
  refine wp_cut (fun a' w' => ∃ g : Nat → Value, ((g 21 = .bool mi ∧ g 22 = .bool pl ∧ g 23 = .bool sh ∧ g 24 = .bool sp ∧ g 25 = .bool ze ∧ g 26 = .string S ∧ g 28 = .string ⟨G.toArray⟩ ∧ g 29 = .bool neg ∧ g 31 = .string ⟨R.toArray⟩ ∧ g 32 = .int .i64 P) ∧ w3 = w') ∧ a' = ⟨#[.int .u64 u, .int .i64 b, .bool sg, .int .i32 vb, .bool up, .bool wp, .int .i64 wid, .bool pp, .int .i64 prec, .int .u8 x, g 10, g 11, g 12, g 13, g 14, g 15, g 16, g 17, g 18, g 19, g 20, g 21, g 22, g 23, g 24, g 25, g 26, g 27, g 28, g 29, g 30, g 31, g 32, g 33, g 34, g 35, g 36, g 37, g 38, g 39, g 40, g 41, g 42, g 43, g 44, g 45, g 46, g 47, g 48, g 49, g 50, g 51, g 52, g 53, g 54, g 55, g 56, g 57, g 58, g 59, g 60, g 61, g 62, g 63, g 64, g 65, g 66, g 67, g 68, g 69, g 70, g 71, g 72, g 73, g 74, g 75, g 76, g 77, g 78, g 79, g 80, g 81, g 82, g 83, g 84, g 85, g 86, g 87, g 88, g 89, g 90, g 91, g 92, g 93, g 94, g 95, g 96, g 97, g 98, g 99, g 100, g 101, g 102, g 103, g 104, g 105, g 106, g 107, g 108, g 109, g 110, g 111, g 112, g 113, g 114, g 115, g 116, g 117, g 118, g 119, g 120, g 121, g 122, g 123, g 124, g 125, g 126, g 127, g 128, g 129, g 130, g 131, g 132, g 133, g 134, g 135, g 136, g 137, g 138, g 139, g 140, g 141, g 142, g 143, g 144, g 145, g 146, g 147, g 148, g 149, g 150, g 151, g 152, g 153, g 154, g 155, g 156, g 157, g 158, g 159, g 160, g 161, g 162, g 163, g 164, g 165, g 166, g 167, g 168, g 169, g 170, g 171, g 172, g 173, g 174, g 175, g 176, g 177, g 178, g 179, g 180, g 181, g 182, g 183, g 184, g 185, g 186, g 187, g 188, g 189, g 190, g 191, g 192, g 193, g 194, g 195, g 196, g 197, g 198, g 199, g 200], []⟩) ?rest ?first
  case first =>
    intro _ _ _ _
    clear hPlo hPhi HREP
    cases pp
    · cases ze
      · have hP0 : P = 0 := by rw [HP.out, HF.out]; rfl
        subst hP0
        go_wp2
        refine Met.intro ?_
        go_step
        refine meetG (by kernel_rfl) ?_
        exact ⟨⟨rfl, rfl, rfl, rfl, rfl, rfl, rfl, rfl, rfl, rfl⟩, rfl⟩
      · cases wp
        · have hP0 : P = 0 := by rw [HP.out, HF.out]; rfl
          subst hP0
          go_wp2
          refine Met.intro ?_
          go_step
          refine meetG (by kernel_rfl) ?_
          exact ⟨⟨rfl, rfl, rfl, rfl, rfl, rfl, rfl, rfl, rfl, rfl⟩, rfl⟩
        · have hwm : IntKind.i64.wrap (wid - 1) = wid - 1 := IntWalk.i64_in _ (by omega)
          cases neg
          · cases pl
            · cases sp
              · have hP0 : P = wid := by rw [HP.out, HF.out]; rfl
                subst hP0
                go_wp2
                refine Met.intro ?_
                go_step
                refine meetG (by kernel_rfl) ?_
                exact ⟨⟨rfl, rfl, rfl, rfl, rfl, rfl, rfl, rfl, rfl, rfl⟩, rfl⟩
              · have hP0 : P = wid - 1 := by rw [HP.out, HF.out]; rfl
                subst hP0
                go_wp2
                refine Met.intro ?_
                go_step
                refine meetG (by kernel_rfl) ?_
                exact ⟨⟨rfl, rfl, rfl, rfl, rfl, rfl, rfl, rfl, rfl, rfl⟩, rfl⟩
            · have hP0 : P = wid - 1 := by rw [HP.out, HF.out]; rfl
              subst hP0
              go_wp2
              refine Met.intro ?_
              go_step
              refine meetG (by kernel_rfl) ?_
              exact ⟨⟨rfl, rfl, rfl, rfl, rfl, rfl, rfl, rfl, rfl, rfl⟩, rfl⟩
          · have hP0 : P = wid - 1 := by rw [HP.out, HF.out]; rfl
            subst hP0
            go_wp2
            refine Met.intro ?_
            go_step
            refine meetG (by kernel_rfl) ?_
            exact ⟨⟨rfl, rfl, rfl, rfl, rfl, rfl, rfl, rfl, rfl, rfl⟩, rfl⟩
    · have hP0 : P = prec := by rw [HP.out, HF.out]; rfl
      subst hP0
      go_wp2
      refine Met.intro ?_
      go_step
      refine meetG (by kernel_rfl) ?_
      exact ⟨⟨rfl, rfl, rfl, rfl, rfl, rfl, rfl, rfl, rfl, rfl⟩, rfl⟩
  case rest =>
  rintro _ wc ⟨g, ⟨⟨h21, h22, h23, h24, h25, h26, h28, h29, h31, h32⟩, rfl⟩, rfl⟩
  rw [h21, h22, h23, h24, h25, h26, h28, h29, h31, h32]
  clear h21 h22 h23 h24 h25 h26 h28 h29 h31 h32
  have hc0 := HC0.out
  have hwP : IntKind.i64.wrap (P - (R.length : Int)) = P - (R.length : Int) := IntWalk.i64_in _ (by omega)
  go_wp2_with (fail)
  refine (HREP.out _).mono ?_
  rintro e w4 ⟨rfl, hb⟩
  have HB4 : Hid (Below w.heap.size w w4) := Lib.hid (HB3.out.trans (hb.mono HB3.out.size))
  clear hb HB3 HREP hwP
  go_upto_if 160 with (fail)
  refine wp_cut (fun a' w' => ∃ g : Nat → Value, ((g 21 = .bool mi ∧ g 22 = .bool pl ∧ g 23 = .bool sh ∧ g 24 = .bool sp ∧ g 25 = .bool ze ∧ g 26 = .string S ∧ g 28 = .string ⟨G.toArray⟩ ∧ g 29 = .bool neg ∧ g 33 = .string ⟨N1.toArray⟩) ∧ w4 = w') ∧ a' = ⟨#[.int .u64 u, .int .i64 b, .bool sg, .int .i32 vb, .bool up, .bool wp, .int .i64 wid, .bool pp, .int .i64 prec, .int .u8 x, g 10, g 11, g 12, g 13, g 14, g 15, g 16, g 17, g 18, g 19, g 20, g 21, g 22, g 23, g 24, g 25, g 26, g 27, g 28, g 29, g 30, g 31, g 32, g 33, g 34, g 35, g 36, g 37, g 38, g 39, g 40, g 41, g 42, g 43, g 44, g 45, g 46, g 47, g 48, g 49, g 50, g 51, g 52, g 53, g 54, g 55, g 56, g 57, g 58, g 59, g 60, g 61, g 62, g 63, g 64, g 65, g 66, g 67, g 68, g 69, g 70, g 71, g 72, g 73, g 74, g 75, g 76, g 77, g 78, g 79, g 80, g 81, g 82, g 83, g 84, g 85, g 86, g 87, g 88, g 89, g 90, g 91, g 92, g 93, g 94, g 95, g 96, g 97, g 98, g 99, g 100, g 101, g 102, g 103, g 104, g 105, g 106, g 107, g 108, g 109, g 110, g 111, g 112, g 113, g 114, g 115, g 116, g 117, g 118, g 119, g 120, g 121, g 122, g 123, g 124, g 125, g 126, g 127, g 128, g 129, g 130, g 131, g 132, g 133, g 134, g 135, g 136, g 137, g 138, g 139, g 140, g 141, g 142, g 143, g 144, g 145, g 146, g 147, g 148, g 149, g 150, g 151, g 152, g 153, g 154, g 155, g 156, g 157, g 158, g 159, g 160, g 161, g 162, g 163, g 164, g 165, g 166, g 167, g 168, g 169, g 170, g 171, g 172, g 173, g 174, g 175, g 176, g 177, g 178, g 179, g 180, g 181, g 182, g 183, g 184, g 185, g 186, g 187, g 188, g 189, g 190, g 191, g 192, g 193, g 194, g 195, g 196, g 197, g 198, g 199, g 200], []⟩) ?rest ?first
  case first =>
    intro _ _ _ _
    clear hc0
    cases sh
    · have e1 : N1 = N0 := by rw [HN1.out]; rfl
      subst e1
      go_wp2
      refine Met.intro ?_
      go_step
      refine meetG (by kernel_rfl) ?_
      exact ⟨⟨rfl, rfl, rfl, rfl, rfl, rfl, rfl, rfl, rfl⟩, rfl⟩
    · rcases HB.out with rfl | rfl | rfl | rfl
      · have hc : (⟨#[48, 98]⟩ ++ ⟨N0.toArray⟩ : ByteArray) = ⟨N1.toArray⟩ := by rw [HN1.out]; exact cat_bytes [48, 98] N0
        go_wp2
        refine Met.intro ?_
        go_step
        refine meetG (by kernel_rfl) ?_
        exact ⟨⟨rfl, rfl, rfl, rfl, rfl, rfl, rfl, rfl, rfl⟩, rfl⟩
      · obtain ⟨c, t, rfl⟩ : ∃ c t, N0 = c :: t := by
          cases N0 with
          | nil => simp at l0'
          | cons c t => exact ⟨c, t, rfl⟩
        have lt : t.length ≤ 65599 := by simp at l0; omega
        by_cases h48 : c = 48
        · subst h48
          have e1 : N1 = 48 :: t := by rw [HN1.out]; rfl
          subst e1
          go_wp2
          refine Met.intro ?_
          go_step
          refine meetG (by kernel_rfl) ?_
          exact ⟨⟨rfl, rfl, rfl, rfl, rfl, rfl, rfl, rfl, rfl⟩, rfl⟩
        · have hz0 : 0 < (⟨(c :: t).toArray⟩ : ByteArray).size := by simp [ByteArray.size]
          have hne : ((((⟨(c :: t).toArray⟩ : ByteArray)[0]'hz0).toNat : Int) != 48) = true := by
            show ((c.toNat : Int) != 48) = true
            simp only [bne_iff_ne, ne_eq]
            intro e
            exact h48 (UInt8.toNat_inj.1 (by simpa using (show c.toNat = 48 by omega)))
          have hc : (⟨#[48]⟩ ++ ⟨(c :: t).toArray⟩ : ByteArray) = ⟨N1.toArray⟩ := by
            rw [HN1.out, show preB true 8 (digs up) (c :: t) = 48 :: c :: t by simp [preB, sharpB, h48]]; exact cat_bytes [48] (c :: t)
          clear h48
          go_wp2
          refine Met.intro ?_
          go_step
          refine meetG (by kernel_rfl) ?_
          exact ⟨⟨rfl, rfl, rfl, rfl, rfl, rfl, rfl, rfl, rfl⟩, rfl⟩
      · have e1 : N1 = N0 := by rw [HN1.out]; rfl
        subst e1
        go_wp2
        refine Met.intro ?_
        go_step
        refine meetG (by kernel_rfl) ?_
        exact ⟨⟨rfl, rfl, rfl, rfl, rfl, rfl, rfl, rfl, rfl⟩, rfl⟩
      · have hS17 : S.size = 17 := by rw [HS.out]; exact digs_length up
        obtain ⟨X, hX⟩ : ∃ X, X = (digs up).getD 16 0 := ⟨_, rfl⟩
        have hex : S.extract 16 17 = ⟨#[X]⟩ := by rw [HS.out, hX]; cases up <;> rfl
        have hc1 : (⟨#[48]⟩ ++ ⟨#[X]⟩ : ByteArray) = ⟨#[48, X]⟩ := cat_bytes [48] [X]
        have hc : (⟨#[48, X]⟩ ++ ⟨N0.toArray⟩ : ByteArray) = ⟨N1.toArray⟩ := by rw [HN1.out, show preB true 16 (digs up) N0 = [48, X] ++ N0 by rw [hX]; rfl]; exact cat_bytes [48, X] N0
        clear hX
        go_wp2
        refine Met.intro ?_
        go_step
        refine meetG (by kernel_rfl) ?_
        exact ⟨⟨rfl, rfl, rfl, rfl, rfl, rfl, rfl, rfl, rfl⟩, rfl⟩
  case rest =>
  rintro _ wc ⟨g, ⟨⟨h21, h22, h23, h24, h25, h26, h28, h29, h33⟩, rfl⟩, rfl⟩
  rw [h21, h22, h23, h24, h25, h26, h28, h29, h33]
  clear h21 h22 h23 h24 h25 h26 h28 h29 h33
  go_upto_if 180 with (fail)
  refine wp_cut (fun a' w' => ∃ g : Nat → Value, ((g 21 = .bool mi ∧ g 22 = .bool pl ∧ g 23 = .bool sh ∧ g 24 = .bool sp ∧ g 25 = .bool ze ∧ g 26 = .string S ∧ g 28 = .string ⟨G.toArray⟩ ∧ g 29 = .bool neg ∧ g 33 = .string ⟨N2.toArray⟩) ∧ w4 = w') ∧ a' = ⟨#[.int .u64 u, .int .i64 b, .bool sg, .int .i32 vb, .bool up, .bool wp, .int .i64 wid, .bool pp, .int .i64 prec, .int .u8 x, g 10, g 11, g 12, g 13, g 14, g 15, g 16, g 17, g 18, g 19, g 20, g 21, g 22, g 23, g 24, g 25, g 26, g 27, g 28, g 29, g 30, g 31, g 32, g 33, g 34, g 35, g 36, g 37, g 38, g 39, g 40, g 41, g 42, g 43, g 44, g 45, g 46, g 47, g 48, g 49, g 50, g 51, g 52, g 53, g 54, g 55, g 56, g 57, g 58, g 59, g 60, g 61, g 62, g 63, g 64, g 65, g 66, g 67, g 68, g 69, g 70, g 71, g 72, g 73, g 74, g 75, g 76, g 77, g 78, g 79, g 80, g 81, g 82, g 83, g 84, g 85, g 86, g 87, g 88, g 89, g 90, g 91, g 92, g 93, g 94, g 95, g 96, g 97, g 98, g 99, g 100, g 101, g 102, g 103, g 104, g 105, g 106, g 107, g 108, g 109, g 110, g 111, g 112, g 113, g 114, g 115, g 116, g 117, g 118, g 119, g 120, g 121, g 122, g 123, g 124, g 125, g 126, g 127, g 128, g 129, g 130, g 131, g 132, g 133, g 134, g 135, g 136, g 137, g 138, g 139, g 140, g 141, g 142, g 143, g 144, g 145, g 146, g 147, g 148, g 149, g 150, g 151, g 152, g 153, g 154, g 155, g 156, g 157, g 158, g 159, g 160, g 161, g 162, g 163, g 164, g 165, g 166, g 167, g 168, g 169, g 170, g 171, g 172, g 173, g 174, g 175, g 176, g 177, g 178, g 179, g 180, g 181, g 182, g 183, g 184, g 185, g 186, g 187, g 188, g 189, g 190, g 191, g 192, g 193, g 194, g 195, g 196, g 197, g 198, g 199, g 200], []⟩) ?rest ?first
  case first =>
    intro _ _ _ _
    clear hc0
    by_cases hv : vb = 79
    · subst hv
      have hc : (⟨#[48, 111]⟩ ++ ⟨N1.toArray⟩ : ByteArray) = ⟨N2.toArray⟩ := by rw [HN2.out]; exact cat_bytes [48, 111] N1
      go_wp2
      refine Met.intro ?_
      go_step
      refine meetG (by kernel_rfl) ?_
      exact ⟨⟨rfl, rfl, rfl, rfl, rfl, rfl, rfl, rfl, rfl⟩, rfl⟩
    · have hvf : (vb == 79) = false := by simpa using hv
      have e1 : N2 = N1 := by rw [HN2.out, decide_eq_false hv]; rfl
      subst e1
      clear hv
      go_wp2
      refine Met.intro ?_
      go_step
      refine meetG (by kernel_rfl) ?_
      exact ⟨⟨rfl, rfl, rfl, rfl, rfl, rfl, rfl, rfl, rfl⟩, rfl⟩
  case rest =>
  rintro _ wc ⟨g, ⟨⟨h21, h22, h23, h24, h25, h26, h28, h29, h33⟩, rfl⟩, rfl⟩
  rw [h21, h22, h23, h24, h25, h26, h28, h29, h33]
  clear h21 h22 h23 h24 h25 h26 h28 h29 h33
  go_upto_if 183 with (fail)
  refine wp_cut (fun a' w' => ∃ g : Nat → Value, ((g 21 = .bool mi ∧ g 22 = .bool pl ∧ g 23 = .bool sh ∧ g 24 = .bool sp ∧ g 25 = .bool ze ∧ g 26 = .string S ∧ g 28 = .string ⟨G.toArray⟩ ∧ g 29 = .bool neg ∧ g 33 = .string ⟨N3.toArray⟩) ∧ w4 = w') ∧ a' = ⟨#[.int .u64 u, .int .i64 b, .bool sg, .int .i32 vb, .bool up, .bool wp, .int .i64 wid, .bool pp, .int .i64 prec, .int .u8 x, g 10, g 11, g 12, g 13, g 14, g 15, g 16, g 17, g 18, g 19, g 20, g 21, g 22, g 23, g 24, g 25, g 26, g 27, g 28, g 29, g 30, g 31, g 32, g 33, g 34, g 35, g 36, g 37, g 38, g 39, g 40, g 41, g 42, g 43, g 44, g 45, g 46, g 47, g 48, g 49, g 50, g 51, g 52, g 53, g 54, g 55, g 56, g 57, g 58, g 59, g 60, g 61, g 62, g 63, g 64, g 65, g 66, g 67, g 68, g 69, g 70, g 71, g 72, g 73, g 74, g 75, g 76, g 77, g 78, g 79, g 80, g 81, g 82, g 83, g 84, g 85, g 86, g 87, g 88, g 89, g 90, g 91, g 92, g 93, g 94, g 95, g 96, g 97, g 98, g 99, g 100, g 101, g 102, g 103, g 104, g 105, g 106, g 107, g 108, g 109, g 110, g 111, g 112, g 113, g 114, g 115, g 116, g 117, g 118, g 119, g 120, g 121, g 122, g 123, g 124, g 125, g 126, g 127, g 128, g 129, g 130, g 131, g 132, g 133, g 134, g 135, g 136, g 137, g 138, g 139, g 140, g 141, g 142, g 143, g 144, g 145, g 146, g 147, g 148, g 149, g 150, g 151, g 152, g 153, g 154, g 155, g 156, g 157, g 158, g 159, g 160, g 161, g 162, g 163, g 164, g 165, g 166, g 167, g 168, g 169, g 170, g 171, g 172, g 173, g 174, g 175, g 176, g 177, g 178, g 179, g 180, g 181, g 182, g 183, g 184, g 185, g 186, g 187, g 188, g 189, g 190, g 191, g 192, g 193, g 194, g 195, g 196, g 197, g 198, g 199, g 200], []⟩) ?rest ?first
  case first =>
    intro _ _ _ _
    clear hc0
    cases neg
    · cases pl
      · cases sp
        · have e1 : N3 = N2 := by rw [HN3.out]; rfl
          subst e1
          go_wp2
          refine Met.intro ?_
          go_step
          refine meetG (by kernel_rfl) ?_
          exact ⟨⟨rfl, rfl, rfl, rfl, rfl, rfl, rfl, rfl, rfl⟩, rfl⟩
        · have hc : (⟨#[32]⟩ ++ ⟨N2.toArray⟩ : ByteArray) = ⟨N3.toArray⟩ := by rw [HN3.out]; exact cat_bytes [32] N2
          go_wp2
          refine Met.intro ?_
          go_step
          refine meetG (by kernel_rfl) ?_
          exact ⟨⟨rfl, rfl, rfl, rfl, rfl, rfl, rfl, rfl, rfl⟩, rfl⟩
      · have hc : (⟨#[43]⟩ ++ ⟨N2.toArray⟩ : ByteArray) = ⟨N3.toArray⟩ := by rw [HN3.out]; exact cat_bytes [43] N2
        go_wp2
        refine Met.intro ?_
        go_step
        refine meetG (by kernel_rfl) ?_
        exact ⟨⟨rfl, rfl, rfl, rfl, rfl, rfl, rfl, rfl, rfl⟩, rfl⟩
    · have hc : (⟨#[45]⟩ ++ ⟨N2.toArray⟩ : ByteArray) = ⟨N3.toArray⟩ := by rw [HN3.out]; exact cat_bytes [45] N2
      go_wp2
      refine Met.intro ?_
      go_step
      refine meetG (by kernel_rfl) ?_
      exact ⟨⟨rfl, rfl, rfl, rfl, rfl, rfl, rfl, rfl, rfl⟩, rfl⟩
  case rest =>
  rintro _ wc ⟨g, ⟨⟨h21, h22, h23, h24, h25, h26, h28, h29, h33⟩, rfl⟩, rfl⟩
  rw [h21, h22, h23, h24, h25, h26, h28, h29, h33]
  clear h21 h22 h23 h24 h25 h26 h28 h29 h33
  clear hc0
  go_wp2_with (fail)
  refine (HPAD.out _).mono ?_
  rintro e w5 ⟨rfl, hb⟩
  have HB5 : Hid (Below w.heap.size w w5) := Lib.hid (HB4.out.trans (hb.mono HB4.out.size))
  clear hb HB4
  go_wp2
  go_ret
  exact ⟨rfl, HB5.out⟩
end Go.Proofs.YtfpjkkjhdblmkaaDoor.Fm
