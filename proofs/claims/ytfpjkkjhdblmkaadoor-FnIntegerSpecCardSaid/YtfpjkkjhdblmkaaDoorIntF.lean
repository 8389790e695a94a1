/- fmtInteger: a number in a base, filled, prefixed, signed, padded. -/
import Derived.Test.YtfpjkkjhdblmkaaDoorIntW
import Derived.Test.YtfpjkkjhdblmkaaDoorCut
import Derived.LoopTactic
import Derived.Deep.LoopGhost
import Derived.WalkLawsBesides
import Derived.WalkSpells
import Derived.Outline
import Derived.Lib.Hide
import Derived.Deep.QuietTactic
import Derived.BigQuiet
import Derived.Deep.DeepCutAuto
import Derived.Deep.CutBlock
import Derived.IntWalk
namespace Go.Proofs.YtfpjkkjhdblmkaaDoor.Fm
open Go.ChangeShapes Go.WideShapes Go.ChangeAt Go.RowKit Go.Fmt Go.Num

theorem i64_hi (u : Int) (h0 : 9223372036854775808 ≤ u) (h1 : u ≤ 18446744073709551615) : IntKind.i64.wrap u = u - 18446744073709551616 := by
  simp [IntKind.wrap, IntKind.signed, IntKind.bits]
  omega
theorem u64_neg (m : Int) (h0 : 0 < m) (h1 : m ≤ 9223372036854775808) : IntKind.u64.wrap (-(18446744073709551616 - m)) = m := by
  simp [IntKind.wrap, IntKind.signed, IntKind.bits]
  omega
theorem dig10 (v : Nat) (up : Bool) (_h : v ≤ 18446744073709551615) : IntKind.u64.wrap (IntKind.u64.wrap (48 + (v : Int)) - (v : Int) / 10 * 10) % 256 = (((digs up).getD (v % 10) 0).toNat : Int) := by
  rw [digs_dec up (v % 10) (Nat.mod_lt _ (by decide))]
  simp [IntKind.wrap, IntKind.signed, IntKind.bits]
  omega
theorem dig8 (v : Nat) (up : Bool) : 48 + (v : Int) % 8 = (((digs up).getD (v % 8) 0).toNat : Int) := by
  rw [digs_dec up (v % 8) (by omega)]
  omega
theorem dig2 (v : Nat) (up : Bool) : 48 + (v : Int) % 2 = (((digs up).getD (v % 2) 0).toNat : Int) := by
  rw [digs_dec up (v % 2) (by omega)]
  omega
theorem str_dig (S : ByteArray) (up : Bool) (hS : S = ⟨(digs up).toArray⟩) (j : Nat) (h : j < S.size) : S[j]'h = (digs up).getD j 0 := by
  subst hS
  have hj : j < (digs up).length := h
  rw [List.getD_eq_getElem?_getD, List.getElem?_eq_getElem hj]
  rfl
theorem u64_mask (i m : Nat) (hm : m = 2 ^ i - 1) (hm64 : m < 18446744073709551616) (a : Int) (h0 : 0 ≤ a) (h1 : a < 18446744073709551616) : bits .and .u64 a (m : Int) = a % ((2 ^ i : Nat) : Int) := by
  rw [u64_and a m h0 h1 (by omega) (by omega)]
  obtain ⟨n, rfl⟩ := Int.eq_ofNat_of_zero_le h0
  simp only [Int.toNat_natCast]
  rw [hm, Nat.and_two_pow_sub_one_eq_mod]
  rfl
theorem u64_and15 (a : Int) (h0 : 0 ≤ a) (h1 : a < 18446744073709551616) : bits .and .u64 a 15 = a % 16 := u64_mask 4 15 rfl (by decide) a h0 h1
theorem u64_and7 (a : Int) (h0 : 0 ≤ a) (h1 : a < 18446744073709551616) : bits .and .u64 a 7 = a % 8 := u64_mask 3 7 rfl (by decide) a h0 h1
theorem u64_and1 (a : Int) (h0 : 0 ≤ a) (h1 : a < 18446744073709551616) : bits .and .u64 a 1 = a % 2 := u64_mask 1 1 rfl (by decide) a h0 h1
/-- The flags, the number and the places as the cuts know them. -/
def prec0 (f : Flags) (neg : Bool) : Int := if f.precP then f.prec else if f.zero && f.widP then (if neg || f.plus || f.space then f.wid - 1 else f.wid) else 0
theorem prec0_bd (f : Flags) (neg : Bool) (L : Nat) (hw0 : 0 ≤ f.wid) (hw1 : f.wid ≤ 65536) (hp0 : 0 ≤ f.prec) (hp1 : f.prec ≤ 65536) (h68 : 68 ≤ L) (h : (f.widP || f.precP) = true → f.wid + f.prec + 3 ≤ L) : -1 ≤ prec0 f neg ∧ prec0 f neg ≤ 65536 ∧ prec0 f neg + 3 ≤ L := by
  unfold prec0
  cases hp : f.precP
  · cases hw : f.widP
    · simp; omega
    · rw [hp, hw] at h
      have := h rfl
      cases f.zero <;> simp
      · omega
      · split <;> omega
  · rw [hp] at h
    have := h (by simp)
    simp; omega
/-- The bytes while they are filled with 0. -/
def Filled (R t : List UInt8) (p : Nat) : Prop := t = List.replicate (t.length - R.length) 48 ++ R ∧ R.length ≤ t.length ∧ (t.length = R.length ∨ t.length ≤ p)
theorem Filled.start (R : List UInt8) (p : Nat) : Filled R R p := ⟨by simp, Nat.le_refl _, .inl rfl⟩
theorem Filled.more {R t : List UInt8} {p : Nat} (h : Filled R t p) (hp : t.length < p) : Filled R (48 :: t) p := by
  obtain ⟨h1, h2, _⟩ := h
  refine ⟨?_, by simp; omega, .inr (by simp; omega)⟩
  rw [List.length_cons, show t.length + 1 - R.length = (t.length - R.length) + 1 by omega, List.replicate_succ, List.cons_append, ← h1]
theorem Filled.done {R t : List UInt8} {p : Nat} (h : Filled R t p) (hp : p ≤ t.length) : t = fillB p R := by
  obtain ⟨h1, h2, h3⟩ := h
  unfold fillB
  rw [show p - R.length = t.length - R.length by omega]
  exact h1
theorem Filled.head {R t : List UInt8} {p : Nat} (h : Filled R t p) (hh : t.head? ≠ some 48) : t.length = R.length := by
  obtain ⟨h1, h2, _⟩ := h
  cases hd : t.length - R.length with
  | zero => omega
  | succ n => rw [hd, List.replicate_succ] at h1; rw [h1] at hh; simp at hh
theorem pre_ge (sharp : Bool) (b : Nat) (ds r : List UInt8) : r.length ≤ (preB sharp b ds r).length := by
  unfold preB sharpB
  repeat' split
  all_goals simp
  all_goals omega
theorem verb_ge (o : Bool) (r : List UInt8) : r.length ≤ (verbB o r).length := by
  unfold verbB; split
  · simp; omega
  · omega
theorem sign_ge (a b c : Bool) (r : List UInt8) : r.length ≤ (signB a b c r).length := by
  unfold signB
  repeat' split
  all_goals simp
set_option maxRecDepth 100000 in
set_option maxHeartbeats 4000000 in
theorem fmtIntMain (N F B : Nat) (f : Flags) (u : Int) (b : Nat) (sg neg : Bool) (m : Nat) (vb : Int) (S : ByteArray) (up : Bool) (w : World) (h : Fresh w N F B f) (hb : b = 2 ∨ b = 8 ∨ b = 10 ∨ b = 16) (hS : S = ⟨(digs up).toArray⟩) (hvb8 : vb = 79 → b = 8) (hg1 : w.cell? ⟨0, 0, none⟩ = some (.int .i64 2147483647))
    (hu0 : 0 ≤ u) (hu1 : u ≤ 18446744073709551615) (hn : (sg = false ∧ neg = false ∧ u = m) ∨ (sg = true ∧ neg = false ∧ u = m ∧ u ≤ 9223372036854775807) ∨ (sg = true ∧ neg = true ∧ u = 18446744073709551616 - m ∧ 0 < m ∧ m ≤ 9223372036854775808))
    (hw0 : 0 ≤ f.wid) (hw1 : f.wid ≤ 65536) (hp0 : 0 ≤ f.prec) (hp1 : f.prec ≤ 65536) (hnz : f.precP = true → f.prec = 0 → 0 < m) :
    Calls Tryd.prog 19 #[.pointer (some ⟨F, 0, none⟩), .int .u64 u, .int .i64 b, .bool sg, .int .i32 vb, .string S] w fun e w' => e = .returned (.tuple #[]) ∧ (∃ base, Live w' N base F B f (padded (f.z false) (numB neg f.plus f.space f.sharp (decide (vb = 79)) b (digs up) (prec0 f neg).toNat m))) ∧ Below N w w' := by
  have HF := Lib.hid h
  have HN := Lib.hid hn
  have HNZ := Lib.hid hnz
  have HSS := Lib.hid hS
  have hS17 : S.size = 17 := by rw [hS]; exact digs_length up
  have hS17' : 17 ≤ S.size := by omega
  clear h hnz hS hS17
  have hm64 : m ≤ 18446744073709551615 := by omega
  go_enter Tryd.func19, Tryd.ntmps19
  go_upto_region 0 with (fail)
  refine wp_cut (fun a' w' => ∃ g : Nat → Value, ((g 1 = .int .u64 u ∧ g 12 = .bool neg) ∧ w = w') ∧ a' = ⟨#[.pointer (some ⟨F, 0, none⟩), g 1, .int .i64 b, g 3, .int .i32 vb, .string S, g 6, g 7, g 8, g 9, g 10, g 11, g 12, g 13, g 14, g 15, g 16, g 17, g 18, g 19, g 20, g 21, g 22, g 23, g 24, g 25, g 26, g 27, g 28, g 29, g 30, g 31, g 32, g 33, g 34, g 35, g 36, g 37, g 38, g 39, g 40, g 41, g 42, g 43, g 44, g 45, g 46, g 47, g 48, g 49, g 50, g 51, g 52, g 53, g 54, g 55, g 56, g 57, g 58, g 59, g 60, g 61, g 62, g 63, g 64, g 65, g 66, g 67, g 68, g 69, g 70, g 71, g 72, g 73, g 74, g 75, g 76, g 77, g 78, g 79, g 80, g 81, g 82, g 83, g 84, g 85, g 86, g 87, g 88, g 89, g 90, g 91, g 92, g 93, g 94, g 95, g 96, g 97, g 98, g 99, g 100, g 101, g 102, g 103, g 104, g 105, g 106, g 107, g 108, g 109, g 110, g 111, g 112, g 113, g 114, g 115, g 116, g 117, g 118, g 119, g 120, g 121, g 122, g 123, g 124, g 125, g 126, g 127, g 128, g 129, g 130, g 131, g 132, g 133, g 134, g 135, g 136, g 137, g 138, g 139, g 140, g 141, g 142, g 143, g 144, g 145, g 146, g 147, g 148, g 149, g 150, g 151, g 152, g 153, g 154, g 155, g 156, g 157, g 158, g 159, g 160, g 161, g 162, g 163, g 164, g 165, g 166, g 167, g 168, g 169, g 170, g 171, g 172, g 173, g 174, g 175, g 176, g 177, g 178, g 179, g 180, g 181, g 182, g 183, g 184, g 185, g 186, g 187, g 188, g 189, g 190, g 191, g 192, g 193, g 194, g 195, g 196, g 197, g 198, g 199, g 200, g 201, g 202, g 203, g 204, g 205, g 206, g 207, g 208, g 209, g 210, g 211, g 212, g 213, g 214, g 215, g 216, g 217, g 218, g 219, g 220, g 221, g 222, g 223, g 224, g 225, g 226, g 227, g 228, g 229, g 230, g 231, g 232, g 233, g 234, g 235, g 236, g 237, g 238, g 239, g 240, g 241, g 242, g 243, g 244, g 245, g 246, g 247, g 248, g 249, g 250, g 251, g 252, g 253, g 254, g 255, g 256, g 257, g 258, g 259, g 260, g 261, g 262, g 263, g 264, g 265, g 266, g 267, g 268, g 269, g 270, g 271, g 272, g 273, g 274, g 275, g 276, g 277, g 278, g 279, g 280, g 281, g 282, g 283, g 284, g 285, g 286, g 287, g 288, g 289, g 290, g 291, g 292, g 293, g 294, g 295, g 296, g 297, g 298, g 299, g 300, g 301, g 302, g 303, g 304, g 305, g 306, g 307, g 308, g 309, g 310, g 311, g 312, g 313, g 314, g 315, g 316, g 317, g 318, g 319], []⟩) ?rest ?first
  case first =>
    intro _ _ _ _
    rcases hn with ⟨rfl, rfl, hu⟩ | ⟨rfl, rfl, hu, hl⟩ | ⟨rfl, rfl, hu, hl, hl2⟩
    · clear hu
      go_wp2
      refine Met.intro ?_
      go_step
      refine meetG (by kernel_rfl) ?_
      exact ⟨⟨rfl, rfl⟩, rfl⟩
    · have hw : IntKind.i64.wrap u = u := IntWalk.i64_in _ (by omega)
      have hd : decide (u < 0) = false := by simp; omega
      clear hu
      go_wp2
      refine Met.intro ?_
      go_step
      refine meetG (by kernel_rfl) ?_
      exact ⟨⟨rfl, rfl⟩, rfl⟩
    · have hw := i64_hi u (by omega) hu1
      have hd : decide (u - 18446744073709551616 < 0) = true := by simp; omega
      clear hu
      go_wp2
      refine Met.intro ?_
      go_step
      refine meetG (by kernel_rfl) ?_
      exact ⟨⟨rfl, rfl⟩, rfl⟩
  case rest =>
  rintro _ wc ⟨g, ⟨⟨h1, h12⟩, rfl⟩, rfl⟩
  rw [h1, h12]
  clear h1 h12
  go_upto_if 26 with (fail)
  refine wp_cut (fun a' w' => ∃ g : Nat → Value, ((g 1 = .int .u64 m ∧ g 12 = .bool neg) ∧ w = w') ∧ a' = ⟨#[.pointer (some ⟨F, 0, none⟩), g 1, .int .i64 b, g 3, .int .i32 vb, .string S, g 6, g 7, g 8, g 9, g 10, g 11, g 12, g 13, g 14, g 15, g 16, g 17, g 18, g 19, g 20, g 21, g 22, g 23, g 24, g 25, g 26, g 27, g 28, g 29, g 30, g 31, g 32, g 33, g 34, g 35, g 36, g 37, g 38, g 39, g 40, g 41, g 42, g 43, g 44, g 45, g 46, g 47, g 48, g 49, g 50, g 51, g 52, g 53, g 54, g 55, g 56, g 57, g 58, g 59, g 60, g 61, g 62, g 63, g 64, g 65, g 66, g 67, g 68, g 69, g 70, g 71, g 72, g 73, g 74, g 75, g 76, g 77, g 78, g 79, g 80, g 81, g 82, g 83, g 84, g 85, g 86, g 87, g 88, g 89, g 90, g 91, g 92, g 93, g 94, g 95, g 96, g 97, g 98, g 99, g 100, g 101, g 102, g 103, g 104, g 105, g 106, g 107, g 108, g 109, g 110, g 111, g 112, g 113, g 114, g 115, g 116, g 117, g 118, g 119, g 120, g 121, g 122, g 123, g 124, g 125, g 126, g 127, g 128, g 129, g 130, g 131, g 132, g 133, g 134, g 135, g 136, g 137, g 138, g 139, g 140, g 141, g 142, g 143, g 144, g 145, g 146, g 147, g 148, g 149, g 150, g 151, g 152, g 153, g 154, g 155, g 156, g 157, g 158, g 159, g 160, g 161, g 162, g 163, g 164, g 165, g 166, g 167, g 168, g 169, g 170, g 171, g 172, g 173, g 174, g 175, g 176, g 177, g 178, g 179, g 180, g 181, g 182, g 183, g 184, g 185, g 186, g 187, g 188, g 189, g 190, g 191, g 192, g 193, g 194, g 195, g 196, g 197, g 198, g 199, g 200, g 201, g 202, g 203, g 204, g 205, g 206, g 207, g 208, g 209, g 210, g 211, g 212, g 213, g 214, g 215, g 216, g 217, g 218, g 219, g 220, g 221, g 222, g 223, g 224, g 225, g 226, g 227, g 228, g 229, g 230, g 231, g 232, g 233, g 234, g 235, g 236, g 237, g 238, g 239, g 240, g 241, g 242, g 243, g 244, g 245, g 246, g 247, g 248, g 249, g 250, g 251, g 252, g 253, g 254, g 255, g 256, g 257, g 258, g 259, g 260, g 261, g 262, g 263, g 264, g 265, g 266, g 267, g 268, g 269, g 270, g 271, g 272, g 273, g 274, g 275, g 276, g 277, g 278, g 279, g 280, g 281, g 282, g 283, g 284, g 285, g 286, g 287, g 288, g 289, g 290, g 291, g 292, g 293, g 294, g 295, g 296, g 297, g 298, g 299, g 300, g 301, g 302, g 303, g 304, g 305, g 306, g 307, g 308, g 309, g 310, g 311, g 312, g 313, g 314, g 315, g 316, g 317, g 318, g 319], []⟩) ?rest ?first
  case first =>
    intro _ _ _ _
    rcases hn with ⟨rfl, rfl, hu⟩ | ⟨rfl, rfl, hu, hl⟩ | ⟨rfl, rfl, hu, hl, hl2⟩
    · have HU := Lib.hid hu
      clear hu
      go_wp2
      refine Met.intro ?_
      go_step
      refine meetG (by kernel_rfl) ?_
      exact ⟨⟨by rw [← HU.out]; rfl, rfl⟩, rfl⟩
    · have HU := Lib.hid hu
      clear hu
      go_wp2
      refine Met.intro ?_
      go_step
      refine meetG (by kernel_rfl) ?_
      exact ⟨⟨by rw [← HU.out]; rfl, rfl⟩, rfl⟩
    · subst hu
      have hng := u64_neg m (by omega) (by omega)
      go_wp2
      refine Met.intro ?_
      go_step
      refine meetG (by kernel_rfl) ?_
      exact ⟨⟨rfl, rfl⟩, rfl⟩
  case rest =>
  rintro _ wc ⟨g, ⟨⟨h1, h12⟩, rfl⟩, rfl⟩
  rw [h1, h12]
  clear h1 h12
  have q1 := HF.out.fmt.widP
  have q2 := HF.out.fmt.precP
  have q13 := HF.out.fmt.wid
  have q14 := HF.out.fmt.prec
  go_upto_region 4 with (fail)
  refine wp_cut (fun a' w' => ∃ g : Nat → Value, ((g 1 = .int .u64 m ∧ g 12 = .bool neg ∧ g 13 = .slice (some ⟨F, 15, none⟩) 68 68 ∧ g 44 = .bool (f.widP || f.precP)) ∧ w = w') ∧ a' = ⟨#[.pointer (some ⟨F, 0, none⟩), g 1, .int .i64 b, g 3, .int .i32 vb, .string S, g 6, g 7, g 8, g 9, g 10, g 11, g 12, g 13, g 14, g 15, g 16, g 17, g 18, g 19, g 20, g 21, g 22, g 23, g 24, g 25, g 26, g 27, g 28, g 29, g 30, g 31, g 32, g 33, g 34, g 35, g 36, g 37, g 38, g 39, g 40, g 41, g 42, g 43, g 44, g 45, g 46, g 47, g 48, g 49, g 50, g 51, g 52, g 53, g 54, g 55, g 56, g 57, g 58, g 59, g 60, g 61, g 62, g 63, g 64, g 65, g 66, g 67, g 68, g 69, g 70, g 71, g 72, g 73, g 74, g 75, g 76, g 77, g 78, g 79, g 80, g 81, g 82, g 83, g 84, g 85, g 86, g 87, g 88, g 89, g 90, g 91, g 92, g 93, g 94, g 95, g 96, g 97, g 98, g 99, g 100, g 101, g 102, g 103, g 104, g 105, g 106, g 107, g 108, g 109, g 110, g 111, g 112, g 113, g 114, g 115, g 116, g 117, g 118, g 119, g 120, g 121, g 122, g 123, g 124, g 125, g 126, g 127, g 128, g 129, g 130, g 131, g 132, g 133, g 134, g 135, g 136, g 137, g 138, g 139, g 140, g 141, g 142, g 143, g 144, g 145, g 146, g 147, g 148, g 149, g 150, g 151, g 152, g 153, g 154, g 155, g 156, g 157, g 158, g 159, g 160, g 161, g 162, g 163, g 164, g 165, g 166, g 167, g 168, g 169, g 170, g 171, g 172, g 173, g 174, g 175, g 176, g 177, g 178, g 179, g 180, g 181, g 182, g 183, g 184, g 185, g 186, g 187, g 188, g 189, g 190, g 191, g 192, g 193, g 194, g 195, g 196, g 197, g 198, g 199, g 200, g 201, g 202, g 203, g 204, g 205, g 206, g 207, g 208, g 209, g 210, g 211, g 212, g 213, g 214, g 215, g 216, g 217, g 218, g 219, g 220, g 221, g 222, g 223, g 224, g 225, g 226, g 227, g 228, g 229, g 230, g 231, g 232, g 233, g 234, g 235, g 236, g 237, g 238, g 239, g 240, g 241, g 242, g 243, g 244, g 245, g 246, g 247, g 248, g 249, g 250, g 251, g 252, g 253, g 254, g 255, g 256, g 257, g 258, g 259, g 260, g 261, g 262, g 263, g 264, g 265, g 266, g 267, g 268, g 269, g 270, g 271, g 272, g 273, g 274, g 275, g 276, g 277, g 278, g 279, g 280, g 281, g 282, g 283, g 284, g 285, g 286, g 287, g 288, g 289, g 290, g 291, g 292, g 293, g 294, g 295, g 296, g 297, g 298, g 299, g 300, g 301, g 302, g 303, g 304, g 305, g 306, g 307, g 308, g 309, g 310, g 311, g 312, g 313, g 314, g 315, g 316, g 317, g 318, g 319], []⟩) ?rest ?first
  case first =>
    intro _ _ _ _
    clear hn
    by_cases hwp : f.widP = true
    · rw [hwp] at q1
      have HWP := Lib.hid hwp
      clear hwp
      go_wp2
      refine Met.intro ?_
      go_step
      refine meetG (by kernel_rfl) ?_
      exact ⟨⟨rfl, rfl, rfl, by rw [HWP.out]; rfl⟩, rfl⟩
    · rw [Bool.not_eq_true] at hwp
      rw [hwp] at q1
      have HWP := Lib.hid hwp
      clear hwp
      go_wp2
      refine Met.intro ?_
      go_step
      refine meetG (by kernel_rfl) ?_
      exact ⟨⟨rfl, rfl, rfl, by rw [HWP.out]; rfl⟩, rfl⟩
  case rest =>
  rintro _ wc ⟨g, ⟨⟨h1, h12, h13, h44⟩, rfl⟩, rfl⟩
  rw [h1, h12, h13, h44]
  clear h1 h12 h13 h44
  go_upto_if 44 with (fail)
  refine wp_cut (fun a' w' => ∃ g : Nat → Value, ((g 1 = .int .u64 m ∧ g 12 = .bool neg ∧ ∃ G O L : Nat, g 13 = .slice (some ⟨G, O, none⟩) L L ∧ Hid (Fresh w' N F B f ∧ At0 w' N F B G O L ∧ Below N w w' ∧ 68 ≤ L ∧ L ≤ 200000 ∧ ((f.widP || f.precP) = true → f.wid + f.prec + 3 ≤ L)))) ∧ a' = ⟨#[.pointer (some ⟨F, 0, none⟩), g 1, .int .i64 b, g 3, .int .i32 vb, .string S, g 6, g 7, g 8, g 9, g 10, g 11, g 12, g 13, g 14, g 15, g 16, g 17, g 18, g 19, g 20, g 21, g 22, g 23, g 24, g 25, g 26, g 27, g 28, g 29, g 30, g 31, g 32, g 33, g 34, g 35, g 36, g 37, g 38, g 39, g 40, g 41, g 42, g 43, g 44, g 45, g 46, g 47, g 48, g 49, g 50, g 51, g 52, g 53, g 54, g 55, g 56, g 57, g 58, g 59, g 60, g 61, g 62, g 63, g 64, g 65, g 66, g 67, g 68, g 69, g 70, g 71, g 72, g 73, g 74, g 75, g 76, g 77, g 78, g 79, g 80, g 81, g 82, g 83, g 84, g 85, g 86, g 87, g 88, g 89, g 90, g 91, g 92, g 93, g 94, g 95, g 96, g 97, g 98, g 99, g 100, g 101, g 102, g 103, g 104, g 105, g 106, g 107, g 108, g 109, g 110, g 111, g 112, g 113, g 114, g 115, g 116, g 117, g 118, g 119, g 120, g 121, g 122, g 123, g 124, g 125, g 126, g 127, g 128, g 129, g 130, g 131, g 132, g 133, g 134, g 135, g 136, g 137, g 138, g 139, g 140, g 141, g 142, g 143, g 144, g 145, g 146, g 147, g 148, g 149, g 150, g 151, g 152, g 153, g 154, g 155, g 156, g 157, g 158, g 159, g 160, g 161, g 162, g 163, g 164, g 165, g 166, g 167, g 168, g 169, g 170, g 171, g 172, g 173, g 174, g 175, g 176, g 177, g 178, g 179, g 180, g 181, g 182, g 183, g 184, g 185, g 186, g 187, g 188, g 189, g 190, g 191, g 192, g 193, g 194, g 195, g 196, g 197, g 198, g 199, g 200, g 201, g 202, g 203, g 204, g 205, g 206, g 207, g 208, g 209, g 210, g 211, g 212, g 213, g 214, g 215, g 216, g 217, g 218, g 219, g 220, g 221, g 222, g 223, g 224, g 225, g 226, g 227, g 228, g 229, g 230, g 231, g 232, g 233, g 234, g 235, g 236, g 237, g 238, g 239, g 240, g 241, g 242, g 243, g 244, g 245, g 246, g 247, g 248, g 249, g 250, g 251, g 252, g 253, g 254, g 255, g 256, g 257, g 258, g 259, g 260, g 261, g 262, g 263, g 264, g 265, g 266, g 267, g 268, g 269, g 270, g 271, g 272, g 273, g 274, g 275, g 276, g 277, g 278, g 279, g 280, g 281, g 282, g 283, g 284, g 285, g 286, g 287, g 288, g 289, g 290, g 291, g 292, g 293, g 294, g 295, g 296, g 297, g 298, g 299, g 300, g 301, g 302, g 303, g 304, g 305, g 306, g 307, g 308, g 309, g 310, g 311, g 312, g 313, g 314, g 315, g 316, g 317, g 318, g 319], []⟩) ?rest ?first
  case first =>
    intro _ _ _ _
    clear hn
    by_cases hc : (f.widP || f.precP) = true
    · have HCC := Lib.hid hc
      rw [hc]
      have hs1 : IntKind.i64.wrap (3 + f.wid) = 3 + f.wid := IntWalk.i64_in _ (by omega)
      have hs2 : IntKind.i64.wrap (3 + f.wid + f.prec) = 3 + f.wid + f.prec := IntWalk.i64_in _ (by omega)
      clear hc
      go_wp2
      go_quiet (fail)
      obtain ⟨W, hW⟩ : ∃ W : Nat, 3 + f.wid + f.prec = (W : Int) := ⟨(3 + f.wid + f.prec).toNat, by omega⟩
      have hWb : W ≤ 140000 := by omega
      rw [hW]
      clear hs1 hs2
      by_cases hbig : (68 : Int) < (W : Int)
      · have HWI := Lib.hid hW
        clear hW
        go_wp2_with ((at_make; refine make_bytes rfl _ 46 rfl w.heap.size 5 Tryd.underlying46 info5 _ W rfl rfl (by omega) (Nat.le_refl _) ?_; intro w1 hown1 hb1 hsz1 hsame1))
        have hb1' : Below w.heap.size w w1 := ⟨hb1.os, hb1.tape, hb1.output, hb1.size, hb1.block⟩
        have HS : Hid (Fresh w1 N F B f ∧ At0 w1 N F B w.heap.size 0 W ∧ Below N w w1 ∧ 68 ≤ W ∧ W ≤ 200000 ∧ ((f.widP || f.precP) = true → f.wid + f.prec + 3 ≤ W)) := Lib.hid
          ⟨HF.out.grow hb1', ⟨by have := HF.out.ltb; omega, fun e => by have := HF.out.ltf; omega, by have := HF.out.lf; have := HF.out.ltf; omega, by simpa using hsz1, fun j hj => by
            have := own_cell hown1 (j := j) hj
            rw [Nat.zero_add]; exact this⟩, hb1'.mono (by have := HF.out.lf; have := HF.out.ltf; omega), by omega, by omega, fun _ => by have := HWI.out; omega⟩
        clear hown1 hb1 hsz1 hsame1 hb1'
        refine Met.intro ?_
        go_step
        refine meetG (by kernel_rfl) ?_
        exact ⟨rfl, rfl, w.heap.size, 0, W, rfl, HS⟩
      · have HWI := Lib.hid hW
        clear hW
        go_wp2
        refine Met.intro ?_
        go_step
        refine meetG (by kernel_rfl) ?_
        have hz : ∀ n, Below w.heap.size w (w.drewN n) := fun n => ⟨rfl, rfl, rfl, Nat.le_refl _, fun _ _ => rfl⟩
        exact ⟨rfl, rfl, F, 15, 68, rfl, Lib.hid ⟨HF.out.grow (hz _), (HF.out.grow (hz _)).own, (hz _).mono (by have := HF.out.lf; have := HF.out.ltf; omega), by omega, by omega, fun _ => by have := HWI.out; omega⟩⟩
    · rw [Bool.not_eq_true] at hc
      rw [hc]
      go_wp2
      refine Met.intro ?_
      go_step
      refine meetG (by kernel_rfl) ?_
      exact ⟨rfl, rfl, F, 15, 68, rfl, Lib.hid ⟨HF.out, HF.out.own, Below.refl _ _, by omega, by omega, fun h => by rw [hc] at h; cases h⟩⟩
  case rest =>
  rintro _ wc ⟨g, ⟨h1, h12, G, O, L, h13, HS⟩, rfl⟩
  rw [h1, h12, h13]
  clear h1 h12 h13 q1 q2 q13 q14 hn
  have q1 := HS.out.1.fmt.widP
  have q2 := HS.out.1.fmt.precP
  have q4 := HS.out.1.fmt.plus
  have q6 := HS.out.1.fmt.space
  have q7 := HS.out.1.fmt.zero
  have q13 := HS.out.1.fmt.wid
  have q14 := HS.out.1.fmt.prec
  go_upto_if 65 with (fail)
  refine wp_cut (fun a' w' => ∃ g : Nat → Value, ((g 1 = .int .u64 m ∧ g 12 = .bool neg ∧ g 13 = .slice (some ⟨G, O, none⟩) L L ∧ g 15 = .int .i64 (prec0 f neg)) ∧ wc = w') ∧ a' = ⟨#[.pointer (some ⟨F, 0, none⟩), g 1, .int .i64 b, g 3, .int .i32 vb, .string S, g 6, g 7, g 8, g 9, g 10, g 11, g 12, g 13, g 14, g 15, g 16, g 17, g 18, g 19, g 20, g 21, g 22, g 23, g 24, g 25, g 26, g 27, g 28, g 29, g 30, g 31, g 32, g 33, g 34, g 35, g 36, g 37, g 38, g 39, g 40, g 41, g 42, g 43, g 44, g 45, g 46, g 47, g 48, g 49, g 50, g 51, g 52, g 53, g 54, g 55, g 56, g 57, g 58, g 59, g 60, g 61, g 62, g 63, g 64, g 65, g 66, g 67, g 68, g 69, g 70, g 71, g 72, g 73, g 74, g 75, g 76, g 77, g 78, g 79, g 80, g 81, g 82, g 83, g 84, g 85, g 86, g 87, g 88, g 89, g 90, g 91, g 92, g 93, g 94, g 95, g 96, g 97, g 98, g 99, g 100, g 101, g 102, g 103, g 104, g 105, g 106, g 107, g 108, g 109, g 110, g 111, g 112, g 113, g 114, g 115, g 116, g 117, g 118, g 119, g 120, g 121, g 122, g 123, g 124, g 125, g 126, g 127, g 128, g 129, g 130, g 131, g 132, g 133, g 134, g 135, g 136, g 137, g 138, g 139, g 140, g 141, g 142, g 143, g 144, g 145, g 146, g 147, g 148, g 149, g 150, g 151, g 152, g 153, g 154, g 155, g 156, g 157, g 158, g 159, g 160, g 161, g 162, g 163, g 164, g 165, g 166, g 167, g 168, g 169, g 170, g 171, g 172, g 173, g 174, g 175, g 176, g 177, g 178, g 179, g 180, g 181, g 182, g 183, g 184, g 185, g 186, g 187, g 188, g 189, g 190, g 191, g 192, g 193, g 194, g 195, g 196, g 197, g 198, g 199, g 200, g 201, g 202, g 203, g 204, g 205, g 206, g 207, g 208, g 209, g 210, g 211, g 212, g 213, g 214, g 215, g 216, g 217, g 218, g 219, g 220, g 221, g 222, g 223, g 224, g 225, g 226, g 227, g 228, g 229, g 230, g 231, g 232, g 233, g 234, g 235, g 236, g 237, g 238, g 239, g 240, g 241, g 242, g 243, g 244, g 245, g 246, g 247, g 248, g 249, g 250, g 251, g 252, g 253, g 254, g 255, g 256, g 257, g 258, g 259, g 260, g 261, g 262, g 263, g 264, g 265, g 266, g 267, g 268, g 269, g 270, g 271, g 272, g 273, g 274, g 275, g 276, g 277, g 278, g 279, g 280, g 281, g 282, g 283, g 284, g 285, g 286, g 287, g 288, g 289, g 290, g 291, g 292, g 293, g 294, g 295, g 296, g 297, g 298, g 299, g 300, g 301, g 302, g 303, g 304, g 305, g 306, g 307, g 308, g 309, g 310, g 311, g 312, g 313, g 314, g 315, g 316, g 317, g 318, g 319], []⟩) ?rest ?first
  case first =>
    intro _ _ _ _
    obtain ⟨v1, e1⟩ : ∃ x, f.widP = x := ⟨_, rfl⟩
    obtain ⟨v2, e2⟩ : ∃ x, f.precP = x := ⟨_, rfl⟩
    obtain ⟨v4, e4⟩ : ∃ x, f.plus = x := ⟨_, rfl⟩
    obtain ⟨v6, e6⟩ : ∃ x, f.space = x := ⟨_, rfl⟩
    obtain ⟨v7, e7⟩ : ∃ x, f.zero = x := ⟨_, rfl⟩
    rw [e1] at q1
    rw [e2] at q2
    rw [e4] at q4
    rw [e6] at q6
    rw [e7] at q7
    have E1 := Lib.hid e1
    have E2 := Lib.hid e2
    have E4 := Lib.hid e4
    have E6 := Lib.hid e6
    have E7 := Lib.hid e7
    clear e1 e2 e4 e6 e7
    rw [E2.out]
    cases v2
    · cases v7
      · go_wp2
        refine Met.intro ?_
        go_step
        refine meetG (by kernel_rfl) ?_
        refine ⟨⟨rfl, rfl, rfl, ?_⟩, rfl⟩
        rw [show prec0 f neg = 0 by unfold prec0; rw [E1.out, E2.out, E4.out, E6.out, E7.out]; rfl]
        rfl
      · cases v1
        · go_wp2
          refine Met.intro ?_
          go_step
          refine meetG (by kernel_rfl) ?_
          refine ⟨⟨rfl, rfl, rfl, ?_⟩, rfl⟩
          rw [show prec0 f neg = 0 by unfold prec0; rw [E1.out, E2.out, E4.out, E6.out, E7.out]; rfl]
          rfl
        · cases neg
          · cases v4
            · cases v6
              · go_wp2
                refine Met.intro ?_
                go_step
                refine meetG (by kernel_rfl) ?_
                refine ⟨⟨rfl, rfl, rfl, ?_⟩, rfl⟩
                rw [show prec0 f false = f.wid by unfold prec0; rw [E1.out, E2.out, E4.out, E6.out, E7.out]; rfl]
                rfl
              · go_wp2
                refine Met.intro ?_
                go_step
                refine meetG (by kernel_rfl) ?_
                refine ⟨⟨rfl, rfl, rfl, ?_⟩, rfl⟩
                rw [show prec0 f false = f.wid - 1 by unfold prec0; rw [E1.out, E2.out, E4.out, E6.out, E7.out]; rfl]
                rfl
            · go_wp2
              refine Met.intro ?_
              go_step
              refine meetG (by kernel_rfl) ?_
              refine ⟨⟨rfl, rfl, rfl, ?_⟩, rfl⟩
              rw [show prec0 f false = f.wid - 1 by unfold prec0; rw [E1.out, E2.out, E4.out, E6.out, E7.out]; rfl]
              rfl
          · go_wp2
            refine Met.intro ?_
            go_step
            refine meetG (by kernel_rfl) ?_
            refine ⟨⟨rfl, rfl, rfl, ?_⟩, rfl⟩
            rw [show prec0 f true = f.wid - 1 by unfold prec0; rw [E1.out, E2.out, E4.out, E6.out, E7.out]; rfl]
            rfl
    · by_cases hz : f.prec = 0
      · have hm0 := HNZ.out E2.out hz
        have hme : (((m : Nat) : Int) == 0) = false := by simp; omega
        have HZ := Lib.hid hz
        rw [hz] at q14
        clear hz
        go_wp2
        refine Met.intro ?_
        go_step
        refine meetG (by kernel_rfl) ?_
        refine ⟨⟨rfl, rfl, rfl, ?_⟩, rfl⟩
        rw [show prec0 f neg = f.prec by unfold prec0; rw [E2.out]; rfl, HZ.out]
        rfl
      · have hze : (f.prec == 0) = false := by simpa using hz
        go_wp2
        refine Met.intro ?_
        go_step
        refine meetG (by kernel_rfl) ?_
        refine ⟨⟨rfl, rfl, rfl, ?_⟩, rfl⟩
        rw [show prec0 f neg = f.prec by unfold prec0; rw [E2.out]; rfl]
        rfl
  case rest =>
  rintro _ wc' ⟨g, ⟨⟨h1, h12, h13, h15⟩, rfl⟩, rfl⟩
  rw [h1, h12, h13, h15]
  clear h1 h12 h13 h15
  clear q1 q2 q4 q6 q7 q13 q14
  go_upto_block 0 with (fail)
  refine wp_cut (fun a' w' => ∃ g : Nat → Value, ((g 12 = .bool neg ∧ g 13 = .slice (some ⟨G, O, none⟩) L L ∧ g 15 = .int .i64 (prec0 f neg)) ∧ ∃ (v i : Nat) (t : List UInt8), g 1 = .int .u64 v ∧ g 17 = .int .i64 i ∧ Hid (v < b ∧ St w w' N F B G O L i f t ∧ repr b (digs up) m = repr b (digs up) v ++ t)) ∧ a' = ⟨#[.pointer (some ⟨F, 0, none⟩), g 1, .int .i64 b, g 3, .int .i32 vb, .string S, g 6, g 7, g 8, g 9, g 10, g 11, g 12, g 13, g 14, g 15, g 16, g 17, g 18, g 19, g 20, g 21, g 22, g 23, g 24, g 25, g 26, g 27, g 28, g 29, g 30, g 31, g 32, g 33, g 34, g 35, g 36, g 37, g 38, g 39, g 40, g 41, g 42, g 43, g 44, g 45, g 46, g 47, g 48, g 49, g 50, g 51, g 52, g 53, g 54, g 55, g 56, g 57, g 58, g 59, g 60, g 61, g 62, g 63, g 64, g 65, g 66, g 67, g 68, g 69, g 70, g 71, g 72, g 73, g 74, g 75, g 76, g 77, g 78, g 79, g 80, g 81, g 82, g 83, g 84, g 85, g 86, g 87, g 88, g 89, g 90, g 91, g 92, g 93, g 94, g 95, g 96, g 97, g 98, g 99, g 100, g 101, g 102, g 103, g 104, g 105, g 106, g 107, g 108, g 109, g 110, g 111, g 112, g 113, g 114, g 115, g 116, g 117, g 118, g 119, g 120, g 121, g 122, g 123, g 124, g 125, g 126, g 127, g 128, g 129, g 130, g 131, g 132, g 133, g 134, g 135, g 136, g 137, g 138, g 139, g 140, g 141, g 142, g 143, g 144, g 145, g 146, g 147, g 148, g 149, g 150, g 151, g 152, g 153, g 154, g 155, g 156, g 157, g 158, g 159, g 160, g 161, g 162, g 163, g 164, g 165, g 166, g 167, g 168, g 169, g 170, g 171, g 172, g 173, g 174, g 175, g 176, g 177, g 178, g 179, g 180, g 181, g 182, g 183, g 184, g 185, g 186, g 187, g 188, g 189, g 190, g 191, g 192, g 193, g 194, g 195, g 196, g 197, g 198, g 199, g 200, g 201, g 202, g 203, g 204, g 205, g 206, g 207, g 208, g 209, g 210, g 211, g 212, g 213, g 214, g 215, g 216, g 217, g 218, g 219, g 220, g 221, g 222, g 223, g 224, g 225, g 226, g 227, g 228, g 229, g 230, g 231, g 232, g 233, g 234, g 235, g 236, g 237, g 238, g 239, g 240, g 241, g 242, g 243, g 244, g 245, g 246, g 247, g 248, g 249, g 250, g 251, g 252, g 253, g 254, g 255, g 256, g 257, g 258, g 259, g 260, g 261, g 262, g 263, g 264, g 265, g 266, g 267, g 268, g 269, g 270, g 271, g 272, g 273, g 274, g 275, g 276, g 277, g 278, g 279, g 280, g 281, g 282, g 283, g 284, g 285, g 286, g 287, g 288, g 289, g 290, g 291, g 292, g 293, g 294, g 295, g 296, g 297, g 298, g 299, g 300, g 301, g 302, g 303, g 304, g 305, g 306, g 307, g 308, g 309, g 310, g 311, g 312, g 313, g 314, g 315, g 316, g 317, g 318, g 319], []⟩) ?rest ?first
  case first =>
    intro _ _ _ _
    have HST : Hid (St w wc N F B G O L L f [] ∧ repr b (digs up) m = repr b (digs up) m ++ []) := Lib.hid ⟨⟨HS.out.1, HS.out.2.1, Tail.nil _ _ _ _, HS.out.2.2.1⟩, by simp⟩
    have hLb : L ≤ 200000 := HS.out.2.2.2.2.1
    have hL68 : 68 ≤ L := HS.out.2.2.2.1
    have HRM : Hid ((repr b (digs up) m).length ≤ 64) := Lib.hid (repr_len (by omega) (by omega)).2
    have HIX : Hid (∀ (v i : Nat) (t : List UInt8) (wr : World), St w wr N F B G O L i f t → repr b (digs up) m = repr b (digs up) v ++ t → ∃ k, i = k + 1 ∧ k < L) := Lib.hid (fun v i t wr h1 h2 => by
      have h3 := congrArg List.length h2
      rw [List.length_append] at h3
      have h4 := HRM.out
      have h5 := h1.tail.1
      have h6 : 1 ≤ (repr b (digs up) v).length := by unfold Go.Num.repr; rw [txt_length]; exact dig_ne b v
      exact ⟨i - 1, by omega, by omega⟩)
    rcases hb with hb | hb | hb | hb
    · have HBE := Lib.hid hb
      have e10 : ((b : Int) == 10) = false := by simp; omega
      have e16 : ((b : Int) == 16) = false := by simp; omega
      have e8 : ((b : Int) == 8) = false := by simp; omega
      have e2 : ((b : Int) == 2) = true := by simp; omega
      clear hb
      go_wp2_with (fail)
      refine wp_loop (fun a' w' => ∃ g : Nat → Value, ((g 12 = .bool neg ∧ g 13 = .slice (some ⟨G, O, none⟩) L L ∧ g 15 = .int .i64 (prec0 f neg)) ∧ ∃ (v i : Nat) (t : List UInt8), g 1 = .int .u64 v ∧ g 17 = .int .i64 i ∧ v ≤ m ∧ Hid (St w w' N F B G O L i f t ∧ repr b (digs up) m = repr b (digs up) v ++ t)) ∧ a' = ⟨#[.pointer (some ⟨F, 0, none⟩), g 1, .int .i64 b, g 3, .int .i32 vb, .string S, g 6, g 7, g 8, g 9, g 10, g 11, g 12, g 13, g 14, g 15, g 16, g 17, g 18, g 19, g 20, g 21, g 22, g 23, g 24, g 25, g 26, g 27, g 28, g 29, g 30, g 31, g 32, g 33, g 34, g 35, g 36, g 37, g 38, g 39, g 40, g 41, g 42, g 43, g 44, g 45, g 46, g 47, g 48, g 49, g 50, g 51, g 52, g 53, g 54, g 55, g 56, g 57, g 58, g 59, g 60, g 61, g 62, g 63, g 64, g 65, g 66, g 67, g 68, g 69, g 70, g 71, g 72, g 73, g 74, g 75, g 76, g 77, g 78, g 79, g 80, g 81, g 82, g 83, g 84, g 85, g 86, g 87, g 88, g 89, g 90, g 91, g 92, g 93, g 94, g 95, g 96, g 97, g 98, g 99, g 100, g 101, g 102, g 103, g 104, g 105, g 106, g 107, g 108, g 109, g 110, g 111, g 112, g 113, g 114, g 115, g 116, g 117, g 118, g 119, g 120, g 121, g 122, g 123, g 124, g 125, g 126, g 127, g 128, g 129, g 130, g 131, g 132, g 133, g 134, g 135, g 136, g 137, g 138, g 139, g 140, g 141, g 142, g 143, g 144, g 145, g 146, g 147, g 148, g 149, g 150, g 151, g 152, g 153, g 154, g 155, g 156, g 157, g 158, g 159, g 160, g 161, g 162, g 163, g 164, g 165, g 166, g 167, g 168, g 169, g 170, g 171, g 172, g 173, g 174, g 175, g 176, g 177, g 178, g 179, g 180, g 181, g 182, g 183, g 184, g 185, g 186, g 187, g 188, g 189, g 190, g 191, g 192, g 193, g 194, g 195, g 196, g 197, g 198, g 199, g 200, g 201, g 202, g 203, g 204, g 205, g 206, g 207, g 208, g 209, g 210, g 211, g 212, g 213, g 214, g 215, g 216, g 217, g 218, g 219, g 220, g 221, g 222, g 223, g 224, g 225, g 226, g 227, g 228, g 229, g 230, g 231, g 232, g 233, g 234, g 235, g 236, g 237, g 238, g 239, g 240, g 241, g 242, g 243, g 244, g 245, g 246, g 247, g 248, g 249, g 250, g 251, g 252, g 253, g 254, g 255, g 256, g 257, g 258, g 259, g 260, g 261, g 262, g 263, g 264, g 265, g 266, g 267, g 268, g 269, g 270, g 271, g 272, g 273, g 274, g 275, g 276, g 277, g 278, g 279, g 280, g 281, g 282, g 283, g 284, g 285, g 286, g 287, g 288, g 289, g 290, g 291, g 292, g 293, g 294, g 295, g 296, g 297, g 298, g 299, g 300, g 301, g 302, g 303, g 304, g 305, g 306, g 307, g 308, g 309, g 310, g 311, g 312, g 313, g 314, g 315, g 316, g 317, g 318, g 319], []⟩) (fun a' _ => (intOf (a'.tmps.getD 1 undef)).toNat) ?start ?round
      case start =>
        refine meetG (by kernel_rfl) ?_
        exact ⟨⟨rfl, rfl, rfl⟩, m, L, [], rfl, rfl, Nat.le_refl _, HST⟩
      case round =>
        rintro _ wr ⟨g, ⟨⟨h12, h13, h15⟩, v, i, t, h1, h17, hvm, HR⟩, rfl⟩
        rw [h12, h13, h15, h1, h17]
        clear h12 h13 h15 h1 h17 HST
        obtain ⟨k, rfl, hkL⟩ := HIX.out v i t wr HR.out.1 HR.out.2
        obtain ⟨⟨cv, hcv⟩, hfv⟩ := HR.out.1.cell
        have hk0 : (0 : Int) ≤ (k : Int) := by omega
        have hk1 : (k : Int) < (L : Int) := by omega
        by_cases hlt : 2 ≤ v
        · have hx := u64_and1 (v : Int) (by omega) (by omega)
          go_wp2
          refine ⟨meetG (by kernel_rfl) ?_, ?_⟩
          · have hp := HR.out.1.put ((digs up).getD (v % 2) 0)
            rw [← dig2 v up] at hp
            refine ⟨⟨rfl, rfl, rfl⟩, v / 2, k, _, rfl, rfl, by omega, Lib.hid ⟨hp, ?_⟩⟩
            have hs := repr_step (b := b) (by have := HBE.out; omega) (by have := HBE.out; omega) HR.out.2
            rw [HBE.out] at hs ⊢
            exact hs
          · simp [intOf]; omega
        · go_wp2
          refine Met.intro ?_
          go_step
          refine meetG (by kernel_rfl) ?_
          exact ⟨⟨rfl, rfl, rfl⟩, v, k + 1, t, rfl, rfl, Lib.hid ⟨by have := HBE.out; omega, HR.out.1, HR.out.2⟩⟩
    · have HBE := Lib.hid hb
      have e10 : ((b : Int) == 10) = false := by simp; omega
      have e16 : ((b : Int) == 16) = false := by simp; omega
      have e8 : ((b : Int) == 8) = true := by simp; omega
      clear hb
      go_wp2_with (fail)
      refine wp_loop (fun a' w' => ∃ g : Nat → Value, ((g 12 = .bool neg ∧ g 13 = .slice (some ⟨G, O, none⟩) L L ∧ g 15 = .int .i64 (prec0 f neg)) ∧ ∃ (v i : Nat) (t : List UInt8), g 1 = .int .u64 v ∧ g 17 = .int .i64 i ∧ v ≤ m ∧ Hid (St w w' N F B G O L i f t ∧ repr b (digs up) m = repr b (digs up) v ++ t)) ∧ a' = ⟨#[.pointer (some ⟨F, 0, none⟩), g 1, .int .i64 b, g 3, .int .i32 vb, .string S, g 6, g 7, g 8, g 9, g 10, g 11, g 12, g 13, g 14, g 15, g 16, g 17, g 18, g 19, g 20, g 21, g 22, g 23, g 24, g 25, g 26, g 27, g 28, g 29, g 30, g 31, g 32, g 33, g 34, g 35, g 36, g 37, g 38, g 39, g 40, g 41, g 42, g 43, g 44, g 45, g 46, g 47, g 48, g 49, g 50, g 51, g 52, g 53, g 54, g 55, g 56, g 57, g 58, g 59, g 60, g 61, g 62, g 63, g 64, g 65, g 66, g 67, g 68, g 69, g 70, g 71, g 72, g 73, g 74, g 75, g 76, g 77, g 78, g 79, g 80, g 81, g 82, g 83, g 84, g 85, g 86, g 87, g 88, g 89, g 90, g 91, g 92, g 93, g 94, g 95, g 96, g 97, g 98, g 99, g 100, g 101, g 102, g 103, g 104, g 105, g 106, g 107, g 108, g 109, g 110, g 111, g 112, g 113, g 114, g 115, g 116, g 117, g 118, g 119, g 120, g 121, g 122, g 123, g 124, g 125, g 126, g 127, g 128, g 129, g 130, g 131, g 132, g 133, g 134, g 135, g 136, g 137, g 138, g 139, g 140, g 141, g 142, g 143, g 144, g 145, g 146, g 147, g 148, g 149, g 150, g 151, g 152, g 153, g 154, g 155, g 156, g 157, g 158, g 159, g 160, g 161, g 162, g 163, g 164, g 165, g 166, g 167, g 168, g 169, g 170, g 171, g 172, g 173, g 174, g 175, g 176, g 177, g 178, g 179, g 180, g 181, g 182, g 183, g 184, g 185, g 186, g 187, g 188, g 189, g 190, g 191, g 192, g 193, g 194, g 195, g 196, g 197, g 198, g 199, g 200, g 201, g 202, g 203, g 204, g 205, g 206, g 207, g 208, g 209, g 210, g 211, g 212, g 213, g 214, g 215, g 216, g 217, g 218, g 219, g 220, g 221, g 222, g 223, g 224, g 225, g 226, g 227, g 228, g 229, g 230, g 231, g 232, g 233, g 234, g 235, g 236, g 237, g 238, g 239, g 240, g 241, g 242, g 243, g 244, g 245, g 246, g 247, g 248, g 249, g 250, g 251, g 252, g 253, g 254, g 255, g 256, g 257, g 258, g 259, g 260, g 261, g 262, g 263, g 264, g 265, g 266, g 267, g 268, g 269, g 270, g 271, g 272, g 273, g 274, g 275, g 276, g 277, g 278, g 279, g 280, g 281, g 282, g 283, g 284, g 285, g 286, g 287, g 288, g 289, g 290, g 291, g 292, g 293, g 294, g 295, g 296, g 297, g 298, g 299, g 300, g 301, g 302, g 303, g 304, g 305, g 306, g 307, g 308, g 309, g 310, g 311, g 312, g 313, g 314, g 315, g 316, g 317, g 318, g 319], []⟩) (fun a' _ => (intOf (a'.tmps.getD 1 undef)).toNat) ?start ?round
      case start =>
        refine meetG (by kernel_rfl) ?_
        exact ⟨⟨rfl, rfl, rfl⟩, m, L, [], rfl, rfl, Nat.le_refl _, HST⟩
      case round =>
        rintro _ wr ⟨g, ⟨⟨h12, h13, h15⟩, v, i, t, h1, h17, hvm, HR⟩, rfl⟩
        rw [h12, h13, h15, h1, h17]
        clear h12 h13 h15 h1 h17 HST
        obtain ⟨k, rfl, hkL⟩ := HIX.out v i t wr HR.out.1 HR.out.2
        obtain ⟨⟨cv, hcv⟩, hfv⟩ := HR.out.1.cell
        have hk0 : (0 : Int) ≤ (k : Int) := by omega
        have hk1 : (k : Int) < (L : Int) := by omega
        by_cases hlt : 8 ≤ v
        · have hx := u64_and7 (v : Int) (by omega) (by omega)
          go_wp2
          refine ⟨meetG (by kernel_rfl) ?_, ?_⟩
          · have hp := HR.out.1.put ((digs up).getD (v % 8) 0)
            rw [← dig8 v up] at hp
            refine ⟨⟨rfl, rfl, rfl⟩, v / 8, k, _, rfl, rfl, by omega, Lib.hid ⟨hp, ?_⟩⟩
            have hs := repr_step (b := b) (by have := HBE.out; omega) (by have := HBE.out; omega) HR.out.2
            rw [HBE.out] at hs ⊢
            exact hs
          · simp [intOf]; omega
        · go_wp2
          refine Met.intro ?_
          go_step
          refine meetG (by kernel_rfl) ?_
          exact ⟨⟨rfl, rfl, rfl⟩, v, k + 1, t, rfl, rfl, Lib.hid ⟨by have := HBE.out; omega, HR.out.1, HR.out.2⟩⟩
    · have HBE := Lib.hid hb
      have e10 : ((b : Int) == 10) = true := by simp; omega
      clear hb
      go_wp2_with (fail)
      refine wp_loop (fun a' w' => ∃ g : Nat → Value, ((g 12 = .bool neg ∧ g 13 = .slice (some ⟨G, O, none⟩) L L ∧ g 15 = .int .i64 (prec0 f neg)) ∧ ∃ (v i : Nat) (t : List UInt8), g 1 = .int .u64 v ∧ g 17 = .int .i64 i ∧ v ≤ m ∧ Hid (St w w' N F B G O L i f t ∧ repr b (digs up) m = repr b (digs up) v ++ t)) ∧ a' = ⟨#[.pointer (some ⟨F, 0, none⟩), g 1, .int .i64 b, g 3, .int .i32 vb, .string S, g 6, g 7, g 8, g 9, g 10, g 11, g 12, g 13, g 14, g 15, g 16, g 17, g 18, g 19, g 20, g 21, g 22, g 23, g 24, g 25, g 26, g 27, g 28, g 29, g 30, g 31, g 32, g 33, g 34, g 35, g 36, g 37, g 38, g 39, g 40, g 41, g 42, g 43, g 44, g 45, g 46, g 47, g 48, g 49, g 50, g 51, g 52, g 53, g 54, g 55, g 56, g 57, g 58, g 59, g 60, g 61, g 62, g 63, g 64, g 65, g 66, g 67, g 68, g 69, g 70, g 71, g 72, g 73, g 74, g 75, g 76, g 77, g 78, g 79, g 80, g 81, g 82, g 83, g 84, g 85, g 86, g 87, g 88, g 89, g 90, g 91, g 92, g 93, g 94, g 95, g 96, g 97, g 98, g 99, g 100, g 101, g 102, g 103, g 104, g 105, g 106, g 107, g 108, g 109, g 110, g 111, g 112, g 113, g 114, g 115, g 116, g 117, g 118, g 119, g 120, g 121, g 122, g 123, g 124, g 125, g 126, g 127, g 128, g 129, g 130, g 131, g 132, g 133, g 134, g 135, g 136, g 137, g 138, g 139, g 140, g 141, g 142, g 143, g 144, g 145, g 146, g 147, g 148, g 149, g 150, g 151, g 152, g 153, g 154, g 155, g 156, g 157, g 158, g 159, g 160, g 161, g 162, g 163, g 164, g 165, g 166, g 167, g 168, g 169, g 170, g 171, g 172, g 173, g 174, g 175, g 176, g 177, g 178, g 179, g 180, g 181, g 182, g 183, g 184, g 185, g 186, g 187, g 188, g 189, g 190, g 191, g 192, g 193, g 194, g 195, g 196, g 197, g 198, g 199, g 200, g 201, g 202, g 203, g 204, g 205, g 206, g 207, g 208, g 209, g 210, g 211, g 212, g 213, g 214, g 215, g 216, g 217, g 218, g 219, g 220, g 221, g 222, g 223, g 224, g 225, g 226, g 227, g 228, g 229, g 230, g 231, g 232, g 233, g 234, g 235, g 236, g 237, g 238, g 239, g 240, g 241, g 242, g 243, g 244, g 245, g 246, g 247, g 248, g 249, g 250, g 251, g 252, g 253, g 254, g 255, g 256, g 257, g 258, g 259, g 260, g 261, g 262, g 263, g 264, g 265, g 266, g 267, g 268, g 269, g 270, g 271, g 272, g 273, g 274, g 275, g 276, g 277, g 278, g 279, g 280, g 281, g 282, g 283, g 284, g 285, g 286, g 287, g 288, g 289, g 290, g 291, g 292, g 293, g 294, g 295, g 296, g 297, g 298, g 299, g 300, g 301, g 302, g 303, g 304, g 305, g 306, g 307, g 308, g 309, g 310, g 311, g 312, g 313, g 314, g 315, g 316, g 317, g 318, g 319], []⟩) (fun a' _ => (intOf (a'.tmps.getD 1 undef)).toNat) ?start ?round
      case start =>
        refine meetG (by kernel_rfl) ?_
        exact ⟨⟨rfl, rfl, rfl⟩, m, L, [], rfl, rfl, Nat.le_refl _, HST⟩
      case round =>
        rintro _ wr ⟨g, ⟨⟨h12, h13, h15⟩, v, i, t, h1, h17, hvm, HR⟩, rfl⟩
        rw [h12, h13, h15, h1, h17]
        clear h12 h13 h15 h1 h17 HST
        obtain ⟨k, rfl, hkL⟩ := HIX.out v i t wr HR.out.1 HR.out.2
        obtain ⟨⟨cv, hcv⟩, hfv⟩ := HR.out.1.cell
        have hk0 : (0 : Int) ≤ (k : Int) := by omega
        have hk1 : (k : Int) < (L : Int) := by omega
        by_cases hlt : 10 ≤ v
        · skip
          go_wp2
          refine ⟨meetG (by kernel_rfl) ?_, ?_⟩
          · have hp := HR.out.1.put ((digs up).getD (v % 10) 0)
            rw [← dig10 v up (by omega)] at hp
            refine ⟨⟨rfl, rfl, rfl⟩, v / 10, k, _, rfl, rfl, by omega, Lib.hid ⟨hp, ?_⟩⟩
            have hs := repr_step (b := b) (by have := HBE.out; omega) (by have := HBE.out; omega) HR.out.2
            rw [HBE.out] at hs ⊢
            exact hs
          · simp [intOf]; omega
        · go_wp2
          refine Met.intro ?_
          go_step
          refine meetG (by kernel_rfl) ?_
          exact ⟨⟨rfl, rfl, rfl⟩, v, k + 1, t, rfl, rfl, Lib.hid ⟨by have := HBE.out; omega, HR.out.1, HR.out.2⟩⟩
    · have HBE := Lib.hid hb
      have e10 : ((b : Int) == 10) = false := by simp; omega
      have e16 : ((b : Int) == 16) = true := by simp; omega
      clear hb
      go_wp2_with (fail)
      refine wp_loop (fun a' w' => ∃ g : Nat → Value, ((g 12 = .bool neg ∧ g 13 = .slice (some ⟨G, O, none⟩) L L ∧ g 15 = .int .i64 (prec0 f neg)) ∧ ∃ (v i : Nat) (t : List UInt8), g 1 = .int .u64 v ∧ g 17 = .int .i64 i ∧ v ≤ m ∧ Hid (St w w' N F B G O L i f t ∧ repr b (digs up) m = repr b (digs up) v ++ t)) ∧ a' = ⟨#[.pointer (some ⟨F, 0, none⟩), g 1, .int .i64 b, g 3, .int .i32 vb, .string S, g 6, g 7, g 8, g 9, g 10, g 11, g 12, g 13, g 14, g 15, g 16, g 17, g 18, g 19, g 20, g 21, g 22, g 23, g 24, g 25, g 26, g 27, g 28, g 29, g 30, g 31, g 32, g 33, g 34, g 35, g 36, g 37, g 38, g 39, g 40, g 41, g 42, g 43, g 44, g 45, g 46, g 47, g 48, g 49, g 50, g 51, g 52, g 53, g 54, g 55, g 56, g 57, g 58, g 59, g 60, g 61, g 62, g 63, g 64, g 65, g 66, g 67, g 68, g 69, g 70, g 71, g 72, g 73, g 74, g 75, g 76, g 77, g 78, g 79, g 80, g 81, g 82, g 83, g 84, g 85, g 86, g 87, g 88, g 89, g 90, g 91, g 92, g 93, g 94, g 95, g 96, g 97, g 98, g 99, g 100, g 101, g 102, g 103, g 104, g 105, g 106, g 107, g 108, g 109, g 110, g 111, g 112, g 113, g 114, g 115, g 116, g 117, g 118, g 119, g 120, g 121, g 122, g 123, g 124, g 125, g 126, g 127, g 128, g 129, g 130, g 131, g 132, g 133, g 134, g 135, g 136, g 137, g 138, g 139, g 140, g 141, g 142, g 143, g 144, g 145, g 146, g 147, g 148, g 149, g 150, g 151, g 152, g 153, g 154, g 155, g 156, g 157, g 158, g 159, g 160, g 161, g 162, g 163, g 164, g 165, g 166, g 167, g 168, g 169, g 170, g 171, g 172, g 173, g 174, g 175, g 176, g 177, g 178, g 179, g 180, g 181, g 182, g 183, g 184, g 185, g 186, g 187, g 188, g 189, g 190, g 191, g 192, g 193, g 194, g 195, g 196, g 197, g 198, g 199, g 200, g 201, g 202, g 203, g 204, g 205, g 206, g 207, g 208, g 209, g 210, g 211, g 212, g 213, g 214, g 215, g 216, g 217, g 218, g 219, g 220, g 221, g 222, g 223, g 224, g 225, g 226, g 227, g 228, g 229, g 230, g 231, g 232, g 233, g 234, g 235, g 236, g 237, g 238, g 239, g 240, g 241, g 242, g 243, g 244, g 245, g 246, g 247, g 248, g 249, g 250, g 251, g 252, g 253, g 254, g 255, g 256, g 257, g 258, g 259, g 260, g 261, g 262, g 263, g 264, g 265, g 266, g 267, g 268, g 269, g 270, g 271, g 272, g 273, g 274, g 275, g 276, g 277, g 278, g 279, g 280, g 281, g 282, g 283, g 284, g 285, g 286, g 287, g 288, g 289, g 290, g 291, g 292, g 293, g 294, g 295, g 296, g 297, g 298, g 299, g 300, g 301, g 302, g 303, g 304, g 305, g 306, g 307, g 308, g 309, g 310, g 311, g 312, g 313, g 314, g 315, g 316, g 317, g 318, g 319], []⟩) (fun a' _ => (intOf (a'.tmps.getD 1 undef)).toNat) ?start ?round
      case start =>
        refine meetG (by kernel_rfl) ?_
        exact ⟨⟨rfl, rfl, rfl⟩, m, L, [], rfl, rfl, Nat.le_refl _, HST⟩
      case round =>
        rintro _ wr ⟨g, ⟨⟨h12, h13, h15⟩, v, i, t, h1, h17, hvm, HR⟩, rfl⟩
        rw [h12, h13, h15, h1, h17]
        clear h12 h13 h15 h1 h17 HST
        obtain ⟨k, rfl, hkL⟩ := HIX.out v i t wr HR.out.1 HR.out.2
        obtain ⟨⟨cv, hcv⟩, hfv⟩ := HR.out.1.cell
        have hk0 : (0 : Int) ≤ (k : Int) := by omega
        have hk1 : (k : Int) < (L : Int) := by omega
        by_cases hlt : 16 ≤ v
        · have hx := u64_and15 (v : Int) (by omega) (by omega)
          have hss : (0 : Int) ≤ (v : Int) % 16 := by omega
          have hss2 : (v : Int) % 16 < (S.size : Int) := by omega
          go_wp2
          refine ⟨meetG (by kernel_rfl) ?_, ?_⟩
          · have hp := HR.out.1.put ((digs up).getD (v % 16) 0)
            rw [← str_dig S up HSS.out (v % 16) (by omega)] at hp
            refine ⟨⟨rfl, rfl, rfl⟩, v / 16, k, _, rfl, rfl, by omega, Lib.hid ⟨hp, ?_⟩⟩
            have hs := repr_step (b := b) (by have := HBE.out; omega) (by have := HBE.out; omega) HR.out.2
            rw [HBE.out] at hs ⊢
            rw [str_dig S up HSS.out (v % 16) (by omega)]
            exact hs
          · simp [intOf]; omega
        · go_wp2
          refine Met.intro ?_
          go_step
          refine meetG (by kernel_rfl) ?_
          exact ⟨⟨rfl, rfl, rfl⟩, v, k + 1, t, rfl, rfl, Lib.hid ⟨by have := HBE.out; omega, HR.out.1, HR.out.2⟩⟩
  case rest =>
  rintro _ w2 ⟨g, ⟨⟨h12, h13, h15⟩, v, i, t, h1, h17, HR⟩, rfl⟩
  rw [h12, h13, h15, h1, h17]
  clear h12 h13 h15 h1 h17
  have hvb : v < b := HR.out.1
  have hL2 : L ≤ 200000 := HS.out.2.2.2.2.1
  have hix : ∃ k, i = k + 1 ∧ k < L := by
    have h3 := congrArg List.length HR.out.2.2
    rw [List.length_append] at h3
    have h4 := (repr_len (ds := digs up) (show 2 ≤ b by omega) (show m < 2 ^ 64 by omega)).2
    have h5 := HR.out.2.1.tail.1
    have h6 : 1 ≤ (repr b (digs up) v).length := by unfold Go.Num.repr; rw [txt_length]; exact dig_ne b v
    have h7 := HS.out.2.2.2.1
    exact ⟨i - 1, by omega, by omega⟩
  obtain ⟨k, rfl, hkL⟩ := hix
  obtain ⟨⟨cv, hcv⟩, hfv⟩ := HR.out.2.1.cell
  have hk0 : (0 : Int) ≤ (k : Int) := by omega
  have hk1 : (k : Int) < (L : Int) := by omega
  have hvS : v < S.size := by omega
  have hvS1 : (v : Int) < (S.size : Int) := by omega
  have hvS0 : (0 : Int) ≤ (v : Int) := by omega
  have hPB := prec0_bd f neg L hw0 hw1 hp0 hp1 HS.out.2.2.2.1 HS.out.2.2.2.2.2
  obtain ⟨P, hP⟩ : ∃ P, P = prec0 f neg := ⟨_, rfl⟩
  rw [← hP] at hPB ⊢
  obtain ⟨hP1, hP2, hP3⟩ := hPB
  go_upto_block 9 with (fail)
  obtain ⟨w3, hw3⟩ : ∃ w3, w3 = w2.setCell ⟨G, O + k, none⟩ (.int .u8 ((S[v]'hvS).toNat : Int)) := ⟨_, rfl⟩
  have HR3 : Hid (St w w3 N F B G O L k f (repr b (digs up) m) ∧ (repr b (digs up) m).length ≤ 64) := Lib.hid (by
    have hd := repr_done hvb HR.out.2.2
    refine ⟨?_, (repr_len (by omega) (by omega)).2⟩
    rw [hd, hw3, str_dig S up HSS.out v hvS]
    exact HR.out.2.1.put _)
  rw [← hw3]
  have HP := Lib.hid hP
  have hL68 : 68 ≤ L := HS.out.2.2.2.1
  clear hw3 hcv hfv hP
  refine wp_cut (fun a' w' => ∃ g : Nat → Value, ((g 12 = .bool neg ∧ g 13 = .slice (some ⟨G, O, none⟩) L L) ∧ ∃ (i : Nat) (t : List UInt8), g 17 = .int .i64 i ∧ Hid (St w w' N F B G O L i f t ∧ t = fillB P.toNat (repr b (digs up) m) ∧ 3 ≤ i ∧ (t.head? ≠ some 48 → 4 ≤ i))) ∧ a' = ⟨#[.pointer (some ⟨F, 0, none⟩), g 1, .int .i64 b, g 3, .int .i32 vb, .string S, g 6, g 7, g 8, g 9, g 10, g 11, g 12, g 13, g 14, g 15, g 16, g 17, g 18, g 19, g 20, g 21, g 22, g 23, g 24, g 25, g 26, g 27, g 28, g 29, g 30, g 31, g 32, g 33, g 34, g 35, g 36, g 37, g 38, g 39, g 40, g 41, g 42, g 43, g 44, g 45, g 46, g 47, g 48, g 49, g 50, g 51, g 52, g 53, g 54, g 55, g 56, g 57, g 58, g 59, g 60, g 61, g 62, g 63, g 64, g 65, g 66, g 67, g 68, g 69, g 70, g 71, g 72, g 73, g 74, g 75, g 76, g 77, g 78, g 79, g 80, g 81, g 82, g 83, g 84, g 85, g 86, g 87, g 88, g 89, g 90, g 91, g 92, g 93, g 94, g 95, g 96, g 97, g 98, g 99, g 100, g 101, g 102, g 103, g 104, g 105, g 106, g 107, g 108, g 109, g 110, g 111, g 112, g 113, g 114, g 115, g 116, g 117, g 118, g 119, g 120, g 121, g 122, g 123, g 124, g 125, g 126, g 127, g 128, g 129, g 130, g 131, g 132, g 133, g 134, g 135, g 136, g 137, g 138, g 139, g 140, g 141, g 142, g 143, g 144, g 145, g 146, g 147, g 148, g 149, g 150, g 151, g 152, g 153, g 154, g 155, g 156, g 157, g 158, g 159, g 160, g 161, g 162, g 163, g 164, g 165, g 166, g 167, g 168, g 169, g 170, g 171, g 172, g 173, g 174, g 175, g 176, g 177, g 178, g 179, g 180, g 181, g 182, g 183, g 184, g 185, g 186, g 187, g 188, g 189, g 190, g 191, g 192, g 193, g 194, g 195, g 196, g 197, g 198, g 199, g 200, g 201, g 202, g 203, g 204, g 205, g 206, g 207, g 208, g 209, g 210, g 211, g 212, g 213, g 214, g 215, g 216, g 217, g 218, g 219, g 220, g 221, g 222, g 223, g 224, g 225, g 226, g 227, g 228, g 229, g 230, g 231, g 232, g 233, g 234, g 235, g 236, g 237, g 238, g 239, g 240, g 241, g 242, g 243, g 244, g 245, g 246, g 247, g 248, g 249, g 250, g 251, g 252, g 253, g 254, g 255, g 256, g 257, g 258, g 259, g 260, g 261, g 262, g 263, g 264, g 265, g 266, g 267, g 268, g 269, g 270, g 271, g 272, g 273, g 274, g 275, g 276, g 277, g 278, g 279, g 280, g 281, g 282, g 283, g 284, g 285, g 286, g 287, g 288, g 289, g 290, g 291, g 292, g 293, g 294, g 295, g 296, g 297, g 298, g 299, g 300, g 301, g 302, g 303, g 304, g 305, g 306, g 307, g 308, g 309, g 310, g 311, g 312, g 313, g 314, g 315, g 316, g 317, g 318, g 319], []⟩) ?rest ?first
  case first =>
    intro _ _ _ _
    go_wp2_with (fail)
    refine wp_loop (fun a' w' => ∃ g : Nat → Value, ((g 12 = .bool neg ∧ g 13 = .slice (some ⟨G, O, none⟩) L L ∧ g 15 = .int .i64 P) ∧ ∃ (i : Nat) (t : List UInt8), g 17 = .int .i64 i ∧ Hid (St w w' N F B G O L i f t ∧ Filled (repr b (digs up) m) t P.toNat)) ∧ a' = ⟨#[.pointer (some ⟨F, 0, none⟩), g 1, .int .i64 b, g 3, .int .i32 vb, .string S, g 6, g 7, g 8, g 9, g 10, g 11, g 12, g 13, g 14, g 15, g 16, g 17, g 18, g 19, g 20, g 21, g 22, g 23, g 24, g 25, g 26, g 27, g 28, g 29, g 30, g 31, g 32, g 33, g 34, g 35, g 36, g 37, g 38, g 39, g 40, g 41, g 42, g 43, g 44, g 45, g 46, g 47, g 48, g 49, g 50, g 51, g 52, g 53, g 54, g 55, g 56, g 57, g 58, g 59, g 60, g 61, g 62, g 63, g 64, g 65, g 66, g 67, g 68, g 69, g 70, g 71, g 72, g 73, g 74, g 75, g 76, g 77, g 78, g 79, g 80, g 81, g 82, g 83, g 84, g 85, g 86, g 87, g 88, g 89, g 90, g 91, g 92, g 93, g 94, g 95, g 96, g 97, g 98, g 99, g 100, g 101, g 102, g 103, g 104, g 105, g 106, g 107, g 108, g 109, g 110, g 111, g 112, g 113, g 114, g 115, g 116, g 117, g 118, g 119, g 120, g 121, g 122, g 123, g 124, g 125, g 126, g 127, g 128, g 129, g 130, g 131, g 132, g 133, g 134, g 135, g 136, g 137, g 138, g 139, g 140, g 141, g 142, g 143, g 144, g 145, g 146, g 147, g 148, g 149, g 150, g 151, g 152, g 153, g 154, g 155, g 156, g 157, g 158, g 159, g 160, g 161, g 162, g 163, g 164, g 165, g 166, g 167, g 168, g 169, g 170, g 171, g 172, g 173, g 174, g 175, g 176, g 177, g 178, g 179, g 180, g 181, g 182, g 183, g 184, g 185, g 186, g 187, g 188, g 189, g 190, g 191, g 192, g 193, g 194, g 195, g 196, g 197, g 198, g 199, g 200, g 201, g 202, g 203, g 204, g 205, g 206, g 207, g 208, g 209, g 210, g 211, g 212, g 213, g 214, g 215, g 216, g 217, g 218, g 219, g 220, g 221, g 222, g 223, g 224, g 225, g 226, g 227, g 228, g 229, g 230, g 231, g 232, g 233, g 234, g 235, g 236, g 237, g 238, g 239, g 240, g 241, g 242, g 243, g 244, g 245, g 246, g 247, g 248, g 249, g 250, g 251, g 252, g 253, g 254, g 255, g 256, g 257, g 258, g 259, g 260, g 261, g 262, g 263, g 264, g 265, g 266, g 267, g 268, g 269, g 270, g 271, g 272, g 273, g 274, g 275, g 276, g 277, g 278, g 279, g 280, g 281, g 282, g 283, g 284, g 285, g 286, g 287, g 288, g 289, g 290, g 291, g 292, g 293, g 294, g 295, g 296, g 297, g 298, g 299, g 300, g 301, g 302, g 303, g 304, g 305, g 306, g 307, g 308, g 309, g 310, g 311, g 312, g 313, g 314, g 315, g 316, g 317, g 318, g 319], []⟩) (fun a' _ => (intOf (a'.tmps.getD 17 undef)).toNat) ?start ?round
    case start =>
      refine meetG (by kernel_rfl) ?_
      exact ⟨⟨rfl, rfl, by rw [HP.out]; rfl⟩, k, _, rfl, Lib.hid ⟨HR3.out.1, Filled.start _ _⟩⟩
    case round =>
      rintro _ wr ⟨g, ⟨⟨h12, h13, h15⟩, i, t, h17, HQ⟩, rfl⟩
      rw [h12, h13, h15, h17]
      clear h12 h13 h15 h17
      have hti := HQ.out.1.tail.1
      have htl := HQ.out.2.2
      have hrl := HR3.out.2
      obtain ⟨j, rfl⟩ : ∃ j, i = j + 1 := ⟨i - 1, by omega⟩
      obtain ⟨⟨cv, hcv⟩, hfv⟩ := HQ.out.1.cell
      have hj0 : (0 : Int) ≤ (j : Int) := by omega
      have hj1 : (j : Int) < (L : Int) := by omega
      have hj2 : (0 : Int) < (j : Int) + 1 := by omega
      have hLt : (L : Int) - ((j : Int) + 1) = (t.length : Int) := by omega
      by_cases hlt : (t.length : Int) < P
      · have hd : decide ((L : Int) - ((j : Int) + 1) < P) = true := by rw [hLt]; simpa using hlt
        clear hLt
        go_wp2
        have hp : St w (wr.setCell ⟨G, O + j, none⟩ (.int .u8 48)) N F B G O L j f (48 :: t) := HQ.out.1.put 48
        refine ⟨meetG (by kernel_rfl) ?_, ?_⟩
        · exact ⟨⟨rfl, rfl, rfl⟩, j, _, rfl, Lib.hid ⟨hp, HQ.out.2.more (by omega)⟩⟩
        · simp [intOf]
      · have hd : decide ((L : Int) - ((j : Int) + 1) < P) = false := by rw [hLt]; simpa using hlt
        clear hLt
        go_wp2
        refine Met.intro ?_
        go_step
        refine meetG (by kernel_rfl) ?_
        exact ⟨⟨rfl, rfl⟩, j + 1, t, rfl, Lib.hid ⟨HQ.out.1, HQ.out.2.done (by omega), by omega, fun hh => by have := HQ.out.2.head hh; omega⟩⟩
  case rest =>
  rintro _ w4 ⟨g, ⟨⟨h12, h13⟩, i, t, h17, HT⟩, rfl⟩
  rw [h12, h13, h17]
  clear h12 h13 h17
  have q5 := HT.out.1.fr.fmt.sharp
  obtain ⟨sh, hsh⟩ : ∃ x, x = f.sharp := ⟨_, rfl⟩
  rw [← hsh] at q5
  have HSH := Lib.hid hsh
  obtain ⟨k2, rfl⟩ : ∃ k2, i = k2 + 1 := ⟨i - 1, by have := HT.out.2.2.1; omega⟩
  have hk2 : 2 ≤ k2 := by have := HT.out.2.2.1; omega
  have hk2L : k2 < L := by have := HT.out.1.tail.1; omega
  have HOC : Hid (b = 8 → t.head? ≠ some 48 → 3 ≤ k2) := Lib.hid (fun _ hh => by have := HT.out.2.2.2 hh; omega)
  clear hsh hvS1 hvS0 hP1 hP2 hP3 HR3
  go_upto_if 223 with (fail)
  refine wp_cut (fun a' w' => ∃ g : Nat → Value, ((g 12 = .bool neg ∧ g 13 = .slice (some ⟨G, O, none⟩) L L) ∧ ∃ (i : Nat) (t' : List UInt8), g 17 = .int .i64 i ∧ Hid (St w w' N F B G O L i f t' ∧ t' = preB f.sharp b (digs up) t ∧ 1 ≤ i ∧ (b = 8 → 3 ≤ i))) ∧ a' = ⟨#[.pointer (some ⟨F, 0, none⟩), g 1, .int .i64 b, g 3, .int .i32 vb, .string S, g 6, g 7, g 8, g 9, g 10, g 11, g 12, g 13, g 14, g 15, g 16, g 17, g 18, g 19, g 20, g 21, g 22, g 23, g 24, g 25, g 26, g 27, g 28, g 29, g 30, g 31, g 32, g 33, g 34, g 35, g 36, g 37, g 38, g 39, g 40, g 41, g 42, g 43, g 44, g 45, g 46, g 47, g 48, g 49, g 50, g 51, g 52, g 53, g 54, g 55, g 56, g 57, g 58, g 59, g 60, g 61, g 62, g 63, g 64, g 65, g 66, g 67, g 68, g 69, g 70, g 71, g 72, g 73, g 74, g 75, g 76, g 77, g 78, g 79, g 80, g 81, g 82, g 83, g 84, g 85, g 86, g 87, g 88, g 89, g 90, g 91, g 92, g 93, g 94, g 95, g 96, g 97, g 98, g 99, g 100, g 101, g 102, g 103, g 104, g 105, g 106, g 107, g 108, g 109, g 110, g 111, g 112, g 113, g 114, g 115, g 116, g 117, g 118, g 119, g 120, g 121, g 122, g 123, g 124, g 125, g 126, g 127, g 128, g 129, g 130, g 131, g 132, g 133, g 134, g 135, g 136, g 137, g 138, g 139, g 140, g 141, g 142, g 143, g 144, g 145, g 146, g 147, g 148, g 149, g 150, g 151, g 152, g 153, g 154, g 155, g 156, g 157, g 158, g 159, g 160, g 161, g 162, g 163, g 164, g 165, g 166, g 167, g 168, g 169, g 170, g 171, g 172, g 173, g 174, g 175, g 176, g 177, g 178, g 179, g 180, g 181, g 182, g 183, g 184, g 185, g 186, g 187, g 188, g 189, g 190, g 191, g 192, g 193, g 194, g 195, g 196, g 197, g 198, g 199, g 200, g 201, g 202, g 203, g 204, g 205, g 206, g 207, g 208, g 209, g 210, g 211, g 212, g 213, g 214, g 215, g 216, g 217, g 218, g 219, g 220, g 221, g 222, g 223, g 224, g 225, g 226, g 227, g 228, g 229, g 230, g 231, g 232, g 233, g 234, g 235, g 236, g 237, g 238, g 239, g 240, g 241, g 242, g 243, g 244, g 245, g 246, g 247, g 248, g 249, g 250, g 251, g 252, g 253, g 254, g 255, g 256, g 257, g 258, g 259, g 260, g 261, g 262, g 263, g 264, g 265, g 266, g 267, g 268, g 269, g 270, g 271, g 272, g 273, g 274, g 275, g 276, g 277, g 278, g 279, g 280, g 281, g 282, g 283, g 284, g 285, g 286, g 287, g 288, g 289, g 290, g 291, g 292, g 293, g 294, g 295, g 296, g 297, g 298, g 299, g 300, g 301, g 302, g 303, g 304, g 305, g 306, g 307, g 308, g 309, g 310, g 311, g 312, g 313, g 314, g 315, g 316, g 317, g 318, g 319], []⟩) ?rest ?first
  case first =>
    intro _ _ _ _
    cases sh
    · go_wp2
      refine Met.intro ?_
      go_step
      refine meetG (by kernel_rfl) ?_
      exact ⟨⟨rfl, rfl⟩, k2 + 1, t, rfl, Lib.hid ⟨HT.out.1, by unfold preB; rw [← HSH.out]; rfl, by omega, fun _ => by omega⟩⟩
    · have HPB : Hid (preB f.sharp b (digs up) t = sharpB b (digs up) t) := Lib.hid (by unfold preB; rw [← HSH.out]; rfl)
      obtain ⟨k3, rfl⟩ : ∃ k3, k2 = k3 + 1 := ⟨k2 - 1, by omega⟩
      have hk3L : k3 < L := by omega
      obtain ⟨⟨cv, hcv⟩, hfv⟩ := HT.out.1.cell
      have hj0 : (0 : Int) ≤ (k3 : Int) := by omega
      have hj1 : (k3 : Int) < (L : Int) := by omega
      have hj2 : (0 : Int) ≤ (k3 : Int) + 1 := by omega
      have hj3 : (k3 : Int) + 1 < (L : Int) := by omega
      have hj4 : (0 : Int) ≤ (k3 : Int) + 1 + 1 := by omega
      rcases hb with hb | hb | hb | hb
      · have HBE := Lib.hid hb
        have e2 : ((b : Int) == 2) = true := by simp; omega
        obtain ⟨⟨cv2, hcv2⟩, hfv2⟩ := HT.out.1.at0.room k3 hk3L
        clear hb
        go_wp2
        have hp1 := HT.out.1.put 98
        have hp2 := hp1.put 48
        refine Met.intro ?_
        go_step
        refine meetG (by kernel_rfl) ?_
        exact ⟨⟨rfl, rfl⟩, k3, _, rfl, Lib.hid ⟨hp2, by rw [HPB.out]; unfold sharpB; simp [HBE.out], by omega, fun h8 => by have := HBE.out; omega⟩⟩
      · have HBE := Lib.hid hb
        have e2 : ((b : Int) == 2) = false := by simp; omega
        have e8 : ((b : Int) == 8) = true := by simp; omega
        obtain ⟨c, t0, htc⟩ : ∃ c t0, t = c :: t0 := by
          cases hq : t with
          | nil => have h1 := HT.out.2.1; rw [hq] at h1; have h2 := congrArg List.length h1; rw [fillB_length] at h2; have h3 := (repr_len (ds := digs up) (show 2 ≤ b by omega) (show m < 2 ^ 64 by omega)).1; simp at h2; omega
          | cons c r => exact ⟨c, r, rfl⟩
        subst htc
        have hhd := HT.out.1.tail.head
        have hj5 : (k3 : Int) + 1 + 1 < (L : Int) := by have := HT.out.1.tail.1; simp at this; omega
        clear hb
        by_cases hc : c = 48
        · subst hc
          have hq : (((48 : UInt8).toNat : Int) != 48) = false := by decide
          go_wp2
          refine Met.intro ?_
          go_step
          refine meetG (by kernel_rfl) ?_
          exact ⟨⟨rfl, rfl⟩, k3 + 1 + 1, _, rfl, Lib.hid ⟨HT.out.1, by rw [HPB.out]; unfold sharpB; simp [HBE.out], by omega, fun _ => by omega⟩⟩
        · have hq : ((c.toNat : Int) != 48) = true := by
            simp only [bne_iff_ne]
            intro e
            exact hc (UInt8.toNat_inj.1 (by have : ((48 : UInt8).toNat) = 48 := rfl; omega))
          have h3k := HOC.out HBE.out (by simpa using hc)
          have HC := Lib.hid hc
          clear hc
          go_wp2
          have hp1 := HT.out.1.put 48
          refine Met.intro ?_
          go_step
          refine meetG (by kernel_rfl) ?_
          exact ⟨⟨rfl, rfl⟩, k3 + 1, _, rfl, Lib.hid ⟨hp1, by rw [HPB.out]; unfold sharpB; simp [HBE.out, HC.out], by omega, fun _ => h3k⟩⟩
      · have HBE := Lib.hid hb
        have e2 : ((b : Int) == 2) = false := by simp; omega
        have e8 : ((b : Int) == 8) = false := by simp; omega
        have e16 : ((b : Int) == 16) = false := by simp; omega
        clear hb
        go_wp2
        refine Met.intro ?_
        go_step
        refine meetG (by kernel_rfl) ?_
        exact ⟨⟨rfl, rfl⟩, k3 + 1 + 1, t, rfl, Lib.hid ⟨HT.out.1, by rw [HPB.out]; unfold sharpB; simp [HBE.out], by omega, fun _ => by omega⟩⟩
      · have HBE := Lib.hid hb
        have e2 : ((b : Int) == 2) = false := by simp; omega
        have e8 : ((b : Int) == 8) = false := by simp; omega
        have e16 : ((b : Int) == 16) = true := by simp; omega
        obtain ⟨⟨cv2, hcv2⟩, hfv2⟩ := HT.out.1.at0.room k3 hk3L
        have h16S : (16 : Int) < (S.size : Int) := by omega
        have h16N : 16 < S.size := by omega
        clear hb
        go_wp2
        have hp1 := HT.out.1.put ((digs up).getD 16 0)
        rw [← str_dig S up HSS.out 16 h16N] at hp1
        have hp2 := hp1.put 48
        refine Met.intro ?_
        go_step
        refine meetG (by kernel_rfl) ?_
        exact ⟨⟨rfl, rfl⟩, k3, _, rfl, Lib.hid ⟨hp2, by rw [HPB.out]; unfold sharpB; simp [HBE.out]; exact str_dig S up HSS.out 16 h16N, by omega, fun h8 => by have := HBE.out; omega⟩⟩
  case rest =>
  rintro _ w5 ⟨g, ⟨⟨h12, h13⟩, i, t5, h17, HT5⟩, rfl⟩
  rw [h12, h13, h17]
  clear h12 h13 h17
  obtain ⟨k5, rfl⟩ : ∃ k5, i = k5 + 1 := ⟨i - 1, by have := HT5.out.2.2.1; omega⟩
  have h5L : k5 + 1 ≤ L := by have := HT5.out.1.tail.1; omega
  clear q5
  go_upto_if 264 with (fail)
  refine wp_cut (fun a' w' => ∃ g : Nat → Value, ((g 12 = .bool neg ∧ g 13 = .slice (some ⟨G, O, none⟩) L L) ∧ ∃ (i : Nat) (t' : List UInt8), g 17 = .int .i64 i ∧ Hid (St w w' N F B G O L i f t' ∧ t' = verbB (decide (vb = 79)) t5 ∧ 1 ≤ i)) ∧ a' = ⟨#[.pointer (some ⟨F, 0, none⟩), g 1, .int .i64 b, g 3, .int .i32 vb, .string S, g 6, g 7, g 8, g 9, g 10, g 11, g 12, g 13, g 14, g 15, g 16, g 17, g 18, g 19, g 20, g 21, g 22, g 23, g 24, g 25, g 26, g 27, g 28, g 29, g 30, g 31, g 32, g 33, g 34, g 35, g 36, g 37, g 38, g 39, g 40, g 41, g 42, g 43, g 44, g 45, g 46, g 47, g 48, g 49, g 50, g 51, g 52, g 53, g 54, g 55, g 56, g 57, g 58, g 59, g 60, g 61, g 62, g 63, g 64, g 65, g 66, g 67, g 68, g 69, g 70, g 71, g 72, g 73, g 74, g 75, g 76, g 77, g 78, g 79, g 80, g 81, g 82, g 83, g 84, g 85, g 86, g 87, g 88, g 89, g 90, g 91, g 92, g 93, g 94, g 95, g 96, g 97, g 98, g 99, g 100, g 101, g 102, g 103, g 104, g 105, g 106, g 107, g 108, g 109, g 110, g 111, g 112, g 113, g 114, g 115, g 116, g 117, g 118, g 119, g 120, g 121, g 122, g 123, g 124, g 125, g 126, g 127, g 128, g 129, g 130, g 131, g 132, g 133, g 134, g 135, g 136, g 137, g 138, g 139, g 140, g 141, g 142, g 143, g 144, g 145, g 146, g 147, g 148, g 149, g 150, g 151, g 152, g 153, g 154, g 155, g 156, g 157, g 158, g 159, g 160, g 161, g 162, g 163, g 164, g 165, g 166, g 167, g 168, g 169, g 170, g 171, g 172, g 173, g 174, g 175, g 176, g 177, g 178, g 179, g 180, g 181, g 182, g 183, g 184, g 185, g 186, g 187, g 188, g 189, g 190, g 191, g 192, g 193, g 194, g 195, g 196, g 197, g 198, g 199, g 200, g 201, g 202, g 203, g 204, g 205, g 206, g 207, g 208, g 209, g 210, g 211, g 212, g 213, g 214, g 215, g 216, g 217, g 218, g 219, g 220, g 221, g 222, g 223, g 224, g 225, g 226, g 227, g 228, g 229, g 230, g 231, g 232, g 233, g 234, g 235, g 236, g 237, g 238, g 239, g 240, g 241, g 242, g 243, g 244, g 245, g 246, g 247, g 248, g 249, g 250, g 251, g 252, g 253, g 254, g 255, g 256, g 257, g 258, g 259, g 260, g 261, g 262, g 263, g 264, g 265, g 266, g 267, g 268, g 269, g 270, g 271, g 272, g 273, g 274, g 275, g 276, g 277, g 278, g 279, g 280, g 281, g 282, g 283, g 284, g 285, g 286, g 287, g 288, g 289, g 290, g 291, g 292, g 293, g 294, g 295, g 296, g 297, g 298, g 299, g 300, g 301, g 302, g 303, g 304, g 305, g 306, g 307, g 308, g 309, g 310, g 311, g 312, g 313, g 314, g 315, g 316, g 317, g 318, g 319], []⟩) ?rest ?first
  case first =>
    intro _ _ _ _
    by_cases hvv : vb = 79
    · have h8 := HT5.out.2.2.2 (hvb8 hvv)
      obtain ⟨k6, rfl⟩ : ∃ k6, k5 = k6 + 1 := ⟨k5 - 1, by omega⟩
      obtain ⟨⟨cv, hcv⟩, hfv⟩ := HT5.out.1.cell
      obtain ⟨⟨cv2, hcv2⟩, hfv2⟩ := HT5.out.1.at0.room k6 (by omega)
      have hj0 : (0 : Int) ≤ (k6 : Int) := by omega
      have hj1 : (k6 : Int) < (L : Int) := by omega
      have hj2 : (0 : Int) ≤ (k6 : Int) + 1 := by omega
      have hj3 : (k6 : Int) + 1 < (L : Int) := by omega
      have hd : (vb == 79) = true := by simpa using hvv
      have HD : Hid (verbB (decide (vb = 79)) t5 = 48 :: 111 :: t5) := Lib.hid (by unfold verbB; simp [hvv])
      have hk6 : 1 ≤ k6 := by omega
      clear hvv h8
      go_wp2
      have hp1 := HT5.out.1.put 111
      have hp2 := hp1.put 48
      refine Met.intro ?_
      go_step
      refine meetG (by kernel_rfl) ?_
      exact ⟨⟨rfl, rfl⟩, k6, _, rfl, Lib.hid ⟨hp2, by rw [HD.out], hk6⟩⟩
    · have hd : (vb == 79) = false := by simpa using hvv
      have HD : Hid (verbB (decide (vb = 79)) t5 = t5) := Lib.hid (by unfold verbB; simp [hvv])
      clear hvv
      go_wp2
      refine Met.intro ?_
      go_step
      refine meetG (by kernel_rfl) ?_
      exact ⟨⟨rfl, rfl⟩, k5 + 1, t5, rfl, Lib.hid ⟨HT5.out.1, by rw [HD.out], by omega⟩⟩
  case rest =>
  rintro _ w6 ⟨g, ⟨⟨h12, h13⟩, i, t6, h17, HT6⟩, rfl⟩
  rw [h12, h13, h17]
  clear h12 h13 h17
  obtain ⟨k7, rfl⟩ : ∃ k7, i = k7 + 1 := ⟨i - 1, by have := HT6.out.2.2; omega⟩
  have h7L : k7 < L := by have := HT6.out.1.tail.1; omega
  have q4 := HT6.out.1.fr.fmt.plus
  have q6 := HT6.out.1.fr.fmt.space
  go_upto_if 275 with (fail)
  refine wp_cut (fun a' w' => ∃ g : Nat → Value, ((g 13 = .slice (some ⟨G, O, none⟩) L L) ∧ ∃ (i : Nat) (t' : List UInt8), g 17 = .int .i64 i ∧ Hid (St w w' N F B G O L i f t' ∧ t' = signB neg f.plus f.space t6)) ∧ a' = ⟨#[.pointer (some ⟨F, 0, none⟩), g 1, .int .i64 b, g 3, .int .i32 vb, .string S, g 6, g 7, g 8, g 9, g 10, g 11, g 12, g 13, g 14, g 15, g 16, g 17, g 18, g 19, g 20, g 21, g 22, g 23, g 24, g 25, g 26, g 27, g 28, g 29, g 30, g 31, g 32, g 33, g 34, g 35, g 36, g 37, g 38, g 39, g 40, g 41, g 42, g 43, g 44, g 45, g 46, g 47, g 48, g 49, g 50, g 51, g 52, g 53, g 54, g 55, g 56, g 57, g 58, g 59, g 60, g 61, g 62, g 63, g 64, g 65, g 66, g 67, g 68, g 69, g 70, g 71, g 72, g 73, g 74, g 75, g 76, g 77, g 78, g 79, g 80, g 81, g 82, g 83, g 84, g 85, g 86, g 87, g 88, g 89, g 90, g 91, g 92, g 93, g 94, g 95, g 96, g 97, g 98, g 99, g 100, g 101, g 102, g 103, g 104, g 105, g 106, g 107, g 108, g 109, g 110, g 111, g 112, g 113, g 114, g 115, g 116, g 117, g 118, g 119, g 120, g 121, g 122, g 123, g 124, g 125, g 126, g 127, g 128, g 129, g 130, g 131, g 132, g 133, g 134, g 135, g 136, g 137, g 138, g 139, g 140, g 141, g 142, g 143, g 144, g 145, g 146, g 147, g 148, g 149, g 150, g 151, g 152, g 153, g 154, g 155, g 156, g 157, g 158, g 159, g 160, g 161, g 162, g 163, g 164, g 165, g 166, g 167, g 168, g 169, g 170, g 171, g 172, g 173, g 174, g 175, g 176, g 177, g 178, g 179, g 180, g 181, g 182, g 183, g 184, g 185, g 186, g 187, g 188, g 189, g 190, g 191, g 192, g 193, g 194, g 195, g 196, g 197, g 198, g 199, g 200, g 201, g 202, g 203, g 204, g 205, g 206, g 207, g 208, g 209, g 210, g 211, g 212, g 213, g 214, g 215, g 216, g 217, g 218, g 219, g 220, g 221, g 222, g 223, g 224, g 225, g 226, g 227, g 228, g 229, g 230, g 231, g 232, g 233, g 234, g 235, g 236, g 237, g 238, g 239, g 240, g 241, g 242, g 243, g 244, g 245, g 246, g 247, g 248, g 249, g 250, g 251, g 252, g 253, g 254, g 255, g 256, g 257, g 258, g 259, g 260, g 261, g 262, g 263, g 264, g 265, g 266, g 267, g 268, g 269, g 270, g 271, g 272, g 273, g 274, g 275, g 276, g 277, g 278, g 279, g 280, g 281, g 282, g 283, g 284, g 285, g 286, g 287, g 288, g 289, g 290, g 291, g 292, g 293, g 294, g 295, g 296, g 297, g 298, g 299, g 300, g 301, g 302, g 303, g 304, g 305, g 306, g 307, g 308, g 309, g 310, g 311, g 312, g 313, g 314, g 315, g 316, g 317, g 318, g 319], []⟩) ?rest ?first
  case first =>
    intro _ _ _ _
    obtain ⟨v4, e4⟩ : ∃ x, f.plus = x := ⟨_, rfl⟩
    obtain ⟨v6, e6⟩ : ∃ x, f.space = x := ⟨_, rfl⟩
    rw [e4] at q4
    rw [e6] at q6
    have E4 := Lib.hid e4
    have E6 := Lib.hid e6
    obtain ⟨⟨cv, hcv⟩, hfv⟩ := HT6.out.1.cell
    have hj0 : (0 : Int) ≤ (k7 : Int) := by omega
    have hj1 : (k7 : Int) < (L : Int) := by omega
    clear e4 e6
    cases neg
    · cases v4
      · cases v6
        · go_wp2
          refine Met.intro ?_
          go_step
          refine meetG (by kernel_rfl) ?_
          exact ⟨rfl, k7 + 1, t6, rfl, Lib.hid ⟨HT6.out.1, by unfold signB; rw [E4.out, E6.out]; rfl⟩⟩
        · go_wp2
          have hp1 := HT6.out.1.put 32
          refine Met.intro ?_
          go_step
          refine meetG (by kernel_rfl) ?_
          exact ⟨rfl, k7, _, rfl, Lib.hid ⟨hp1, by unfold signB; rw [E4.out, E6.out]; rfl⟩⟩
      · go_wp2
        have hp1 := HT6.out.1.put 43
        refine Met.intro ?_
        go_step
        refine meetG (by kernel_rfl) ?_
        exact ⟨rfl, k7, _, rfl, Lib.hid ⟨hp1, by unfold signB; rw [E4.out]; rfl⟩⟩
    · go_wp2
      have hp1 := HT6.out.1.put 45
      refine Met.intro ?_
      go_step
      refine meetG (by kernel_rfl) ?_
      exact ⟨rfl, k7, _, rfl, Lib.hid ⟨hp1, by unfold signB; rfl⟩⟩
  case rest =>
  rintro _ w7 ⟨g, ⟨h13, i, t7, h17, HT7⟩, rfl⟩
  rw [h13, h17]
  clear h13 h17 q4 q6
  have ht7 : 1 ≤ t7.length := by
    have h1 := congrArg List.length HT.out.2.1
    rw [fillB_length] at h1
    have h2 := (repr_len (ds := digs up) (show 2 ≤ b by omega) (show m < 2 ^ 64 by omega)).1
    have h3 := pre_ge f.sharp b (digs up) t
    have h4 := verb_ge (decide (vb = 79)) t5
    have h5 := sign_ge neg f.plus f.space t6
    rw [← HT5.out.2.1] at h3
    rw [← HT6.out.2.1] at h4
    rw [← HT7.out.2] at h5
    omega
  have hiL := HT7.out.1.tail.1
  have q7 := HT7.out.1.fr.fmt.zero
  have f7 := HT7.out.1.fr.fmt.frz 7
  have hfin : t7 = numB neg f.plus f.space f.sharp (decide (vb = 79)) b (digs up) P.toNat m := by
    rw [HT7.out.2, HT6.out.2.1, HT5.out.2.1, HT.out.2.1]; rfl
  have hlv := HT7.out.1.fr.live.setZ false
  have hsr := HT7.out.1.src.setZ (F := F) (z := false) (fun b' o' e1 e2 => by
    simp only [Option.some.injEq, Addr.mk.injEq, and_true] at e1
    have := HT7.out.1.at0.gf (by rw [e1.1]; exact e2)
    omega)
  have hm8 : (w7.setCell ⟨F, 7, none⟩ (.bool false)).cell? ⟨0, 0, none⟩ = some (.int .i64 2147483647) := by
    have h1 := HF.out.maxl
    have h2 := HF.out.lf
    rw [World.cell?_setCell_other _ _ _ _ (fun e => by have := congrArg Addr.block e; simp at this; omega)]
    exact maxl_below HT7.out.1.bel h1 hg1
  have hPad := padLive N w7.heap.size F B (f.z false) [] t7 (some ⟨G, O + i, none⟩) t7.length _ hlv hsr (fun e => by cases e) (Nat.le_refl _) hm8 (by simp; omega) (by show -1073741824 ≤ f.wid; omega) (by show f.wid ≤ 1073741823; omega)
  have HPad := Lib.hid hPad
  have HFIN := Lib.hid hfin
  have hi0 : (0 : Int) ≤ (i : Int) := by omega
  have hi1 : (i : Int) ≤ (L : Int) := by omega
  have hneL : ¬ L = i := by omega
  have hLi : L - i = t7.length := by omega
  clear hPad hfin hlv hsr hm8 hiL ht7
  go_wp2_with (fail)
  refine HPad.out.mono ?_
  rintro e w9 ⟨rfl, hl9, hb9⟩
  rw [List.nil_append] at hl9
  have q7' := hl9.fmt.zero
  have f7' := hl9.fmt.frz 7
  have HL9 := Lib.hid (hl9.setZ f.zero)
  have HB9 := Lib.hid hb9
  clear hl9 hb9 q7 f7 HPad
  go_wp2
  go_end0
  refine ⟨rfl, ⟨w7.heap.size, ?_⟩, ?_⟩
  · rw [← HP.out, ← HFIN.out]
    exact HL9.out
  · have h1 : Below N w7 (w7.setCell ⟨F, 7, none⟩ (.bool false)) := (Below.refl _ _).setCell HF.out.lf _
    exact HT7.out.1.bel.trans (h1.trans (HB9.out.setCell HF.out.lf _))
end Go.Proofs.YtfpjkkjhdblmkaaDoor.Fm
