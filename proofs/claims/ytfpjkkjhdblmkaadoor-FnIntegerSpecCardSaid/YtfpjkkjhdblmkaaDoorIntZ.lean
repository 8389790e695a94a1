/- fmtInteger at the precision 0 of the number 0: the width in blanks. -/
import Derived.Test.YtfpjkkjhdblmkaaDoorIntG
namespace Go.Proofs.YtfpjkkjhdblmkaaDoor.Fm
open Go.ChangeShapes Go.WideShapes Go.ChangeAt Go.RowKit Go.Fmt Go.Num

set_option maxRecDepth 100000 in
set_option maxHeartbeats 4000000 in
theorem fmtIntZ (N F B : Nat) (f : Flags) (b : Nat) (sg : Bool) (vb : Int) (S : ByteArray) (w : World) (h : Fresh w N F B f) (hg1 : w.cell? ⟨0, 0, none⟩ = some (.int .i64 2147483647))
    (hw0 : 0 ≤ f.wid) (hw1 : f.wid ≤ 65536) (hpp : f.precP = true) (hpr : f.prec = 0) :
    Calls Tryd.prog 19 #[.pointer (some ⟨F, 0, none⟩), .int .u64 0, .int .i64 b, .bool sg, .int .i32 vb, .string S] w fun e w' => e = .returned (.tuple #[]) ∧ (∃ base, Live w' N base F B f (List.replicate f.wid.toNat 32)) ∧ Below N w w' := by
  have HF := Lib.hid h
  have q1 := h.fmt.widP
  have q2 := h.fmt.precP
  have q13 := h.fmt.wid
  have q14 := h.fmt.prec
  rw [hpp] at q2
  rw [hpr] at q14
  have HPP := Lib.hid hpp
  have HPR := Lib.hid hpr
  clear h hpp hpr
  go_enter Tryd.func19, Tryd.ntmps19
  go_upto_region 0 with (fail)
  refine wp_cut (fun a' w' => ∃ g : Nat → Value, ((g 1 = .int .u64 0 ∧ g 12 = .bool false) ∧ w = w') ∧ a' = ⟨#[.pointer (some ⟨F, 0, none⟩), g 1, .int .i64 b, g 3, .int .i32 vb, .string S, g 6, g 7, g 8, g 9, g 10, g 11, g 12, g 13, g 14, g 15, g 16, g 17, g 18, g 19, g 20, g 21, g 22, g 23, g 24, g 25, g 26, g 27, g 28, g 29, g 30, g 31, g 32, g 33, g 34, g 35, g 36, g 37, g 38, g 39, g 40, g 41, g 42, g 43, g 44, g 45, g 46, g 47, g 48, g 49, g 50, g 51, g 52, g 53, g 54, g 55, g 56, g 57, g 58, g 59, g 60, g 61, g 62, g 63, g 64, g 65, g 66, g 67, g 68, g 69, g 70, g 71, g 72, g 73, g 74, g 75, g 76, g 77, g 78, g 79, g 80, g 81, g 82, g 83, g 84, g 85, g 86, g 87, g 88, g 89, g 90, g 91, g 92, g 93, g 94, g 95, g 96, g 97, g 98, g 99, g 100, g 101, g 102, g 103, g 104, g 105, g 106, g 107, g 108, g 109, g 110, g 111, g 112, g 113, g 114, g 115, g 116, g 117, g 118, g 119, g 120, g 121, g 122, g 123, g 124, g 125, g 126, g 127, g 128, g 129, g 130, g 131, g 132, g 133, g 134, g 135, g 136, g 137, g 138, g 139, g 140, g 141, g 142, g 143, g 144, g 145, g 146, g 147, g 148, g 149, g 150, g 151, g 152, g 153, g 154, g 155, g 156, g 157, g 158, g 159, g 160, g 161, g 162, g 163, g 164, g 165, g 166, g 167, g 168, g 169, g 170, g 171, g 172, g 173, g 174, g 175, g 176, g 177, g 178, g 179, g 180, g 181, g 182, g 183, g 184, g 185, g 186, g 187, g 188, g 189, g 190, g 191, g 192, g 193, g 194, g 195, g 196, g 197, g 198, g 199, g 200, g 201, g 202, g 203, g 204, g 205, g 206, g 207, g 208, g 209, g 210, g 211, g 212, g 213, g 214, g 215, g 216, g 217, g 218, g 219, g 220, g 221, g 222, g 223, g 224, g 225, g 226, g 227, g 228, g 229, g 230, g 231, g 232, g 233, g 234, g 235, g 236, g 237, g 238, g 239, g 240, g 241, g 242, g 243, g 244, g 245, g 246, g 247, g 248, g 249, g 250, g 251, g 252, g 253, g 254, g 255, g 256, g 257, g 258, g 259, g 260, g 261, g 262, g 263, g 264, g 265, g 266, g 267, g 268, g 269, g 270, g 271, g 272, g 273, g 274, g 275, g 276, g 277, g 278, g 279, g 280, g 281, g 282, g 283, g 284, g 285, g 286, g 287, g 288, g 289, g 290, g 291, g 292, g 293, g 294, g 295, g 296, g 297, g 298, g 299, g 300, g 301, g 302, g 303, g 304, g 305, g 306, g 307, g 308, g 309, g 310, g 311, g 312, g 313, g 314, g 315, g 316, g 317, g 318, g 319], []⟩) ?rest ?first
  case first =>
    intro _ _ _ _
    cases sg
    · go_wp2
      refine Met.intro ?_
      go_step
      refine meetG (by kernel_rfl) ?_
      exact ⟨⟨rfl, rfl⟩, rfl⟩
    · go_wp2
      refine Met.intro ?_
      go_step
      refine meetG (by kernel_rfl) ?_
      exact ⟨⟨rfl, rfl⟩, rfl⟩
  case rest =>
  rintro _ wc ⟨g, ⟨⟨h1, h12⟩, rfl⟩, rfl⟩
  rw [h1, h12]
  clear h1 h12
  go_upto_region 4 with (fail)
  refine wp_cut (fun a' w' => ∃ g : Nat → Value, ((g 1 = .int .u64 0 ∧ g 12 = .bool false ∧ g 13 = .slice (some ⟨F, 15, none⟩) 68 68 ∧ g 44 = .bool true) ∧ w = w') ∧ a' = ⟨#[.pointer (some ⟨F, 0, none⟩), g 1, .int .i64 b, g 3, .int .i32 vb, .string S, g 6, g 7, g 8, g 9, g 10, g 11, g 12, g 13, g 14, g 15, g 16, g 17, g 18, g 19, g 20, g 21, g 22, g 23, g 24, g 25, g 26, g 27, g 28, g 29, g 30, g 31, g 32, g 33, g 34, g 35, g 36, g 37, g 38, g 39, g 40, g 41, g 42, g 43, g 44, g 45, g 46, g 47, g 48, g 49, g 50, g 51, g 52, g 53, g 54, g 55, g 56, g 57, g 58, g 59, g 60, g 61, g 62, g 63, g 64, g 65, g 66, g 67, g 68, g 69, g 70, g 71, g 72, g 73, g 74, g 75, g 76, g 77, g 78, g 79, g 80, g 81, g 82, g 83, g 84, g 85, g 86, g 87, g 88, g 89, g 90, g 91, g 92, g 93, g 94, g 95, g 96, g 97, g 98, g 99, g 100, g 101, g 102, g 103, g 104, g 105, g 106, g 107, g 108, g 109, g 110, g 111, g 112, g 113, g 114, g 115, g 116, g 117, g 118, g 119, g 120, g 121, g 122, g 123, g 124, g 125, g 126, g 127, g 128, g 129, g 130, g 131, g 132, g 133, g 134, g 135, g 136, g 137, g 138, g 139, g 140, g 141, g 142, g 143, g 144, g 145, g 146, g 147, g 148, g 149, g 150, g 151, g 152, g 153, g 154, g 155, g 156, g 157, g 158, g 159, g 160, g 161, g 162, g 163, g 164, g 165, g 166, g 167, g 168, g 169, g 170, g 171, g 172, g 173, g 174, g 175, g 176, g 177, g 178, g 179, g 180, g 181, g 182, g 183, g 184, g 185, g 186, g 187, g 188, g 189, g 190, g 191, g 192, g 193, g 194, g 195, g 196, g 197, g 198, g 199, g 200, g 201, g 202, g 203, g 204, g 205, g 206, g 207, g 208, g 209, g 210, g 211, g 212, g 213, g 214, g 215, g 216, g 217, g 218, g 219, g 220, g 221, g 222, g 223, g 224, g 225, g 226, g 227, g 228, g 229, g 230, g 231, g 232, g 233, g 234, g 235, g 236, g 237, g 238, g 239, g 240, g 241, g 242, g 243, g 244, g 245, g 246, g 247, g 248, g 249, g 250, g 251, g 252, g 253, g 254, g 255, g 256, g 257, g 258, g 259, g 260, g 261, g 262, g 263, g 264, g 265, g 266, g 267, g 268, g 269, g 270, g 271, g 272, g 273, g 274, g 275, g 276, g 277, g 278, g 279, g 280, g 281, g 282, g 283, g 284, g 285, g 286, g 287, g 288, g 289, g 290, g 291, g 292, g 293, g 294, g 295, g 296, g 297, g 298, g 299, g 300, g 301, g 302, g 303, g 304, g 305, g 306, g 307, g 308, g 309, g 310, g 311, g 312, g 313, g 314, g 315, g 316, g 317, g 318, g 319], []⟩) ?rest ?first
  case first =>
    intro _ _ _ _
    by_cases hwp : f.widP = true
    · rw [hwp] at q1
      clear hwp
      go_wp2
      refine Met.intro ?_
      go_step
      refine meetG (by kernel_rfl) ?_
      exact ⟨⟨rfl, rfl, rfl, rfl⟩, rfl⟩
    · rw [Bool.not_eq_true] at hwp
      rw [hwp] at q1
      clear hwp
      go_wp2
      refine Met.intro ?_
      go_step
      refine meetG (by kernel_rfl) ?_
      exact ⟨⟨rfl, rfl, rfl, rfl⟩, rfl⟩
  case rest =>
  rintro _ wc ⟨g, ⟨⟨h1, h12, h13, h44⟩, rfl⟩, rfl⟩
  rw [h1, h12, h13, h44]
  clear h1 h12 h13 h44
  go_upto_if 44 with (fail)
  refine wp_cut (fun a' w' => ∃ g : Nat → Value, ((g 1 = .int .u64 0 ∧ g 12 = .bool false ∧ Hid (Fresh w' N F B f ∧ Below N w w'))) ∧ a' = ⟨#[.pointer (some ⟨F, 0, none⟩), g 1, .int .i64 b, g 3, .int .i32 vb, .string S, g 6, g 7, g 8, g 9, g 10, g 11, g 12, g 13, g 14, g 15, g 16, g 17, g 18, g 19, g 20, g 21, g 22, g 23, g 24, g 25, g 26, g 27, g 28, g 29, g 30, g 31, g 32, g 33, g 34, g 35, g 36, g 37, g 38, g 39, g 40, g 41, g 42, g 43, g 44, g 45, g 46, g 47, g 48, g 49, g 50, g 51, g 52, g 53, g 54, g 55, g 56, g 57, g 58, g 59, g 60, g 61, g 62, g 63, g 64, g 65, g 66, g 67, g 68, g 69, g 70, g 71, g 72, g 73, g 74, g 75, g 76, g 77, g 78, g 79, g 80, g 81, g 82, g 83, g 84, g 85, g 86, g 87, g 88, g 89, g 90, g 91, g 92, g 93, g 94, g 95, g 96, g 97, g 98, g 99, g 100, g 101, g 102, g 103, g 104, g 105, g 106, g 107, g 108, g 109, g 110, g 111, g 112, g 113, g 114, g 115, g 116, g 117, g 118, g 119, g 120, g 121, g 122, g 123, g 124, g 125, g 126, g 127, g 128, g 129, g 130, g 131, g 132, g 133, g 134, g 135, g 136, g 137, g 138, g 139, g 140, g 141, g 142, g 143, g 144, g 145, g 146, g 147, g 148, g 149, g 150, g 151, g 152, g 153, g 154, g 155, g 156, g 157, g 158, g 159, g 160, g 161, g 162, g 163, g 164, g 165, g 166, g 167, g 168, g 169, g 170, g 171, g 172, g 173, g 174, g 175, g 176, g 177, g 178, g 179, g 180, g 181, g 182, g 183, g 184, g 185, g 186, g 187, g 188, g 189, g 190, g 191, g 192, g 193, g 194, g 195, g 196, g 197, g 198, g 199, g 200, g 201, g 202, g 203, g 204, g 205, g 206, g 207, g 208, g 209, g 210, g 211, g 212, g 213, g 214, g 215, g 216, g 217, g 218, g 219, g 220, g 221, g 222, g 223, g 224, g 225, g 226, g 227, g 228, g 229, g 230, g 231, g 232, g 233, g 234, g 235, g 236, g 237, g 238, g 239, g 240, g 241, g 242, g 243, g 244, g 245, g 246, g 247, g 248, g 249, g 250, g 251, g 252, g 253, g 254, g 255, g 256, g 257, g 258, g 259, g 260, g 261, g 262, g 263, g 264, g 265, g 266, g 267, g 268, g 269, g 270, g 271, g 272, g 273, g 274, g 275, g 276, g 277, g 278, g 279, g 280, g 281, g 282, g 283, g 284, g 285, g 286, g 287, g 288, g 289, g 290, g 291, g 292, g 293, g 294, g 295, g 296, g 297, g 298, g 299, g 300, g 301, g 302, g 303, g 304, g 305, g 306, g 307, g 308, g 309, g 310, g 311, g 312, g 313, g 314, g 315, g 316, g 317, g 318, g 319], []⟩) ?rest ?first
  case first =>
    intro _ _ _ _
    have hs1 : IntKind.i64.wrap (3 + f.wid) = 3 + f.wid := IntWalk.i64_in _ (by omega)
    go_wp2
    go_quiet (fail)
    obtain ⟨W, hW⟩ : ∃ W : Nat, 3 + f.wid = (W : Int) := ⟨(3 + f.wid).toNat, by omega⟩
    have hWb : W ≤ 140000 := by omega
    rw [hW]
    clear hs1
    by_cases hbig : (68 : Int) < (W : Int)
    · clear hW
      go_wp2_with ((at_make; refine make_bytes rfl _ 46 rfl w.heap.size 5 Tryd.underlying46 info5 _ W rfl rfl (by omega) (Nat.le_refl _) ?_; intro w1 hown1 hb1 hsz1 hsame1))
      have hb1' : Below w.heap.size w w1 := ⟨hb1.os, hb1.tape, hb1.output, hb1.size, hb1.block⟩
      have HS : Hid (Fresh w1 N F B f ∧ Below N w w1) := Lib.hid ⟨HF.out.grow hb1', hb1'.mono (by have := HF.out.lf; have := HF.out.ltf; omega)⟩
      clear hown1 hb1 hsz1 hsame1 hb1'
      refine Met.intro ?_
      go_step
      refine meetG (by kernel_rfl) ?_
      exact ⟨rfl, rfl, HS⟩
    · clear hW
      go_wp2
      refine Met.intro ?_
      go_step
      refine meetG (by kernel_rfl) ?_
      have hz : ∀ n, Below w.heap.size w (w.drewN n) := fun n => ⟨rfl, rfl, rfl, Nat.le_refl _, fun _ _ => rfl⟩
      exact ⟨rfl, rfl, Lib.hid ⟨HF.out.grow (hz _), (hz _).mono (by have := HF.out.lf; have := HF.out.ltf; omega)⟩⟩
  case rest =>
  rintro _ wc ⟨g, ⟨h1, h12, HS⟩, rfl⟩
  rw [h1, h12]
  clear h1 h12 q1 q2 q13 q14
  have q2 := HS.out.1.fmt.precP
  have q7 := HS.out.1.fmt.zero
  have q13 := HS.out.1.fmt.wid
  have q14 := HS.out.1.fmt.prec
  have f7 := HS.out.1.fmt.frz 7
  rw [HPP.out] at q2
  rw [HPR.out] at q14
  have hlv := HS.out.1.live.setZ false
  have hm8 : (wc.setCell ⟨F, 7, none⟩ (.bool false)).cell? ⟨0, 0, none⟩ = some (.int .i64 2147483647) := by
    have h1 := HF.out.maxl
    have h2 := HF.out.lf
    rw [World.cell?_setCell_other _ _ _ _ (fun e => by have := congrArg Addr.block e; simp at this; omega)]
    exact maxl_below HS.out.2 h1 hg1
  have HPad := Lib.hid (writePadding F wc.heap.size ⟨B, 0, none⟩ false f.wid [] _ hlv.buf hm8 hlv.fmt.buf hlv.fmt.zero hlv.hf (by simp; omega))
  have HLV := Lib.hid hlv
  clear hlv hm8
  go_wp2_with (fail)
  refine HPad.out.mono ?_
  rintro e w9 ⟨rfl, hb9, hk9⟩
  obtain ⟨hl9, hbe9⟩ := HLV.out.kept hb9 hk9
  rw [List.nil_append] at hl9
  have q7' := hl9.fmt.zero
  have f7' := hl9.fmt.frz 7
  have HL9 := Lib.hid (hl9.setZ f.zero)
  have HB9 := Lib.hid hbe9
  clear hl9 hb9 hk9 hbe9 q7 f7 HPad HLV
  go_wp2
  try simp only [Exit.inBlock, Exit.then]
  refine bodyPost_ret (results_none rfl _ _ _) rfl ?_
  refine ⟨rfl, ⟨wc.heap.size, HL9.out⟩, ?_⟩
  have h1 : Below N wc (wc.setCell ⟨F, 7, none⟩ (.bool false)) := (Below.refl _ _).setCell HF.out.lf _
  exact HS.out.2.trans (h1.trans (HB9.out.setCell HF.out.lf _))
theorem zFmtIZ (N F B : Nat) (f : Flags) (b : Nat) (sg : Bool) (vb : Int) (S : ByteArray) (w : World) (h : Fresh w N F B f) (hg1 : w.cell? ⟨0, 0, none⟩ = some (.int .i64 2147483647))
    (hw0 : 0 ≤ f.wid) (hw1 : f.wid ≤ 65536) (hpp : f.precP = true) (hpr : f.prec = 0) :
    Calls Tryd.prog 8 #[.pointer (some ⟨F, 0, none⟩), .int .u64 0, .int .i64 b, .bool sg, .int .i32 vb, .string S] w fun e w' => e = .returned (.tuple #[]) ∧ (∃ base, Live w' N base F B f (List.replicate f.wid.toNat 32)) ∧ Below N w w' := by
  have hC := Lib.hid (fmtIntZ N F B f b sg vb S w h hg1 hw0 hw1 hpp hpr)
  clear h hg1 hpp hpr
  go_enter Tryd.func8, Tryd.ntmps8
  go_wp2_with (fail)
  refine hC.out.mono ?_
  rintro e w' ⟨rfl, h1, h2⟩
  have H1 := Lib.hid h1
  clear h1
  go_wp2
  go_end0
  exact ⟨rfl, H1.out, h2⟩
end Go.Proofs.YtfpjkkjhdblmkaaDoor.Fm
