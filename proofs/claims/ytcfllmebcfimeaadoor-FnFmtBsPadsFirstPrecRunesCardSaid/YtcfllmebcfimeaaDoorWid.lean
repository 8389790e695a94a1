/- The laws' own helper zzWidth gives the width that the model's decoder gives. -/
import Derived.Test.YtcfllmebcfimeaaDoorWidL
import Derived.Test.YtcfllmebcfimeaaDoorTrunc
import Derived.Test.YtcfllmebcfimeaaDoorCut
namespace Go.Proofs.YtcfllmebcfimeaaDoor.Fm
open Go.ChangeShapes Go.WideShapes Go.ChangeAt Go.RowKit Go.Fmt

/-- The bytes of s lie in block g. -/
def Lies (w : World) (g : Nat) (s : ByteArray) : Prop := ∀ j, j < s.size → w.cell? ⟨g, j, none⟩ = some (.int .u8 ((s.get! j).toNat : Nat))

theorem ret_int {k : IntKind} {a b : Int} (h : a = b) : Ending.returned (.int k a) = .returned (.int k b) := by rw [h]

set_option maxRecDepth 100000 in
set_option maxHeartbeats 4000000 in
theorem zzWidth (G i c : Nat) (s : ByteArray) (w : World) (hat : Lies w G s) (hi : i < s.size) (hsz : s.size ≤ 1048576) :
    Calls Tryd.prog 61 #[.slice (some ⟨G, 0, none⟩) s.size c, .int .i64 i] w fun e w' => e = .returned (.int .i64 ((Utf8.decode s i).2 : Nat)) ∧ w = w' := by
  rw [Lib.decode_at]
  have HAT := Lib.hid hat
  obtain ⟨b0, hb0⟩ : ∃ b, b = (s.get! i).toNat := ⟨_, rfl⟩
  have hb0l : b0 < 256 := by rw [hb0]; exact UInt8.toNat_lt _
  have hc0 := hat i hi
  rw [← hb0] at hc0 ⊢
  have hi0 : (0 : Int) ≤ (i : Int) := by omega
  have hi1 : (i : Int) < (s.size : Int) := by omega
  clear hb0 hat
  by_cases h128 : b0 < 128
  · have HR := Lib.hid (wid_ascii (s.size - i) b0 (s.get! (i + 1)).toNat (s.get! (i + 2)).toNat (s.get! (i + 3)).toNat h128)
    have hz : (b0 : Int) < 128 := by omega
    go_enter Tryd.func61, Tryd.ntmps61
    go_wp2
    go_ret
    exact ⟨ret_int (by rw [HR.out]; rfl), rfl⟩
  have hz : (128 : Int) ≤ (b0 : Int) := by omega
  by_cases hbad : b0 < 194 ∨ 244 < b0
  · have HR := Lib.hid (wid_bad (s.size - i) b0 (s.get! (i + 1)).toNat (s.get! (i + 2)).toNat (s.get! (i + 3)).toNat (by omega) hbad hb0l)
    have e1 : ((b0 : Int) == 224) = false := by simp; omega
    have e2 : ((b0 : Int) == 237) = false := by simp; omega
    have e3 : ((b0 : Int) == 238) = false := by simp; omega
    have e4 : ((b0 : Int) == 239) = false := by simp; omega
    have e5 : ((b0 : Int) == 240) = false := by simp; omega
    have e6 : ((b0 : Int) == 244) = false := by simp; omega
    rcases hbad with hbad | hbad
    all_goals
      go_enter Tryd.func61, Tryd.ntmps61
      go_wp2
      go_ret
      exact ⟨ret_int (by rw [HR.out]; rfl), rfl⟩
  have hA : 194 ≤ b0 ∧ b0 ≤ 244 := by omega
  clear hbad h128
  obtain ⟨N, hN⟩ : ∃ N, N = wn b0 := ⟨_, rfl⟩
  obtain ⟨L, hL⟩ : ∃ N, N = wlo b0 := ⟨_, rfl⟩
  obtain ⟨U, hU⟩ : ∃ N, N = whi b0 := ⟨_, rfl⟩
  have HN := Lib.hid hN
  have HL := Lib.hid hL
  have HU := Lib.hid hU
  have hN2 : 2 ≤ N ∧ N ≤ 4 := by have := wn_cases b0; omega
  have HA := Lib.hid hA
  clear hN hL hU
  go_enter Tryd.func61, Tryd.ntmps61
  go_upto_if 21 with (fail)
  refine wp_cut (fun a' w' => ∃ g : Nat → Value, ((g 6 = .int .i64 N ∧ g 7 = .int .u8 L ∧ g 8 = .int .u8 U) ∧ w = w') ∧ a' = ⟨#[.slice (some ⟨G, 0, none⟩) s.size c, .int .i64 i, g 2, g 3, g 4, g 5, g 6, g 7, g 8, g 9, g 10, g 11, g 12, g 13, g 14, g 15, g 16, g 17, g 18, g 19, g 20, g 21, g 22, g 23, g 24, g 25, g 26, g 27, g 28, g 29, g 30, g 31, g 32, g 33, g 34, g 35, g 36, g 37, g 38, g 39, g 40, g 41, g 42, g 43, g 44, g 45, g 46, g 47, g 48, g 49, g 50, g 51, g 52, g 53, g 54, g 55, g 56, g 57, g 58, g 59, g 60, g 61, g 62, g 63, g 64, g 65, g 66, g 67, g 68, g 69, g 70, g 71, g 72, g 73, g 74, g 75, g 76, g 77, g 78, g 79, g 80, g 81, g 82, g 83, g 84, g 85, g 86, g 87, g 88, g 89, g 90, g 91], []⟩) ?rest ?first
  case first =>
    intro _ _ _ _
    rcases (show b0 ≤ 223 ∨ b0 = 224 ∨ (225 ≤ b0 ∧ b0 ≤ 236) ∨ b0 = 237 ∨ b0 = 238 ∨ b0 = 239 ∨ b0 = 240 ∨ (241 ≤ b0 ∧ b0 ≤ 243) ∨ b0 = 244 by omega) with h | h | h | h | h | h | h | h | h
    · have HN' := Lib.hid (show N = 2 by rw [HN.out]; unfold wn; rw [if_pos (by omega)])
      have HL' := Lib.hid (show L = 128 by rw [HL.out]; unfold wlo; rw [if_neg (by omega), if_neg (by omega)])
      have HU' := Lib.hid (show U = 191 by rw [HU.out]; unfold whi; rw [if_neg (by omega), if_neg (by omega)])
      go_wp2
      refine Met.intro ?_
      go_step
      refine meetG (by kernel_rfl) ?_
      rw [HN'.out, HL'.out, HU'.out]
      exact ⟨⟨rfl, rfl, rfl⟩, rfl⟩
    · have HN' := Lib.hid (show N = 3 by rw [HN.out]; unfold wn; rw [if_neg (by omega), if_pos (by omega)])
      have HL' := Lib.hid (show L = 160 by rw [HL.out]; unfold wlo; rw [if_pos (by omega)])
      have HU' := Lib.hid (show U = 191 by rw [HU.out]; unfold whi; rw [if_neg (by omega), if_neg (by omega)])
      subst h
      clear hA hc0
      go_wp2
      refine Met.intro ?_
      go_step
      refine meetG (by kernel_rfl) ?_
      rw [HN'.out, HL'.out, HU'.out]
      exact ⟨⟨rfl, rfl, rfl⟩, rfl⟩
    · have HN' := Lib.hid (show N = 3 by rw [HN.out]; unfold wn; rw [if_neg (by omega), if_pos (by omega)])
      have HL' := Lib.hid (show L = 128 by rw [HL.out]; unfold wlo; rw [if_neg (by omega), if_neg (by omega)])
      have HU' := Lib.hid (show U = 191 by rw [HU.out]; unfold whi; rw [if_neg (by omega), if_neg (by omega)])
      have e224 : ((b0 : Int) == 224) = false := by simp; omega
      go_wp2
      refine Met.intro ?_
      go_step
      refine meetG (by kernel_rfl) ?_
      rw [HN'.out, HL'.out, HU'.out]
      exact ⟨⟨rfl, rfl, rfl⟩, rfl⟩
    · have HN' := Lib.hid (show N = 3 by rw [HN.out]; unfold wn; rw [if_neg (by omega), if_pos (by omega)])
      have HL' := Lib.hid (show L = 128 by rw [HL.out]; unfold wlo; rw [if_neg (by omega), if_neg (by omega)])
      have HU' := Lib.hid (show U = 159 by rw [HU.out]; unfold whi; rw [if_pos (by omega)])
      subst h
      clear hA hc0
      go_wp2
      refine Met.intro ?_
      go_step
      refine meetG (by kernel_rfl) ?_
      rw [HN'.out, HL'.out, HU'.out]
      exact ⟨⟨rfl, rfl, rfl⟩, rfl⟩
    · have HN' := Lib.hid (show N = 3 by rw [HN.out]; unfold wn; rw [if_neg (by omega), if_pos (by omega)])
      have HL' := Lib.hid (show L = 128 by rw [HL.out]; unfold wlo; rw [if_neg (by omega), if_neg (by omega)])
      have HU' := Lib.hid (show U = 191 by rw [HU.out]; unfold whi; rw [if_neg (by omega), if_neg (by omega)])
      subst h
      clear hA hc0
      go_wp2
      refine Met.intro ?_
      go_step
      refine meetG (by kernel_rfl) ?_
      rw [HN'.out, HL'.out, HU'.out]
      exact ⟨⟨rfl, rfl, rfl⟩, rfl⟩
    · have HN' := Lib.hid (show N = 3 by rw [HN.out]; unfold wn; rw [if_neg (by omega), if_pos (by omega)])
      have HL' := Lib.hid (show L = 128 by rw [HL.out]; unfold wlo; rw [if_neg (by omega), if_neg (by omega)])
      have HU' := Lib.hid (show U = 191 by rw [HU.out]; unfold whi; rw [if_neg (by omega), if_neg (by omega)])
      subst h
      clear hA hc0
      go_wp2
      refine Met.intro ?_
      go_step
      refine meetG (by kernel_rfl) ?_
      rw [HN'.out, HL'.out, HU'.out]
      exact ⟨⟨rfl, rfl, rfl⟩, rfl⟩
    · have HN' := Lib.hid (show N = 4 by rw [HN.out]; unfold wn; rw [if_neg (by omega), if_neg (by omega)])
      have HL' := Lib.hid (show L = 144 by rw [HL.out]; unfold wlo; rw [if_neg (by omega), if_pos (by omega)])
      have HU' := Lib.hid (show U = 191 by rw [HU.out]; unfold whi; rw [if_neg (by omega), if_neg (by omega)])
      subst h
      clear hA hc0
      go_wp2
      refine Met.intro ?_
      go_step
      refine meetG (by kernel_rfl) ?_
      rw [HN'.out, HL'.out, HU'.out]
      exact ⟨⟨rfl, rfl, rfl⟩, rfl⟩
    · have HN' := Lib.hid (show N = 4 by rw [HN.out]; unfold wn; rw [if_neg (by omega), if_neg (by omega)])
      have HL' := Lib.hid (show L = 128 by rw [HL.out]; unfold wlo; rw [if_neg (by omega), if_neg (by omega)])
      have HU' := Lib.hid (show U = 191 by rw [HU.out]; unfold whi; rw [if_neg (by omega), if_neg (by omega)])
      have e224 : ((b0 : Int) == 224) = false := by simp; omega
      have e237 : ((b0 : Int) == 237) = false := by simp; omega
      have e238 : ((b0 : Int) == 238) = false := by simp; omega
      have e239 : ((b0 : Int) == 239) = false := by simp; omega
      have e240 : ((b0 : Int) == 240) = false := by simp; omega
      go_wp2
      refine Met.intro ?_
      go_step
      refine meetG (by kernel_rfl) ?_
      rw [HN'.out, HL'.out, HU'.out]
      exact ⟨⟨rfl, rfl, rfl⟩, rfl⟩
    · have HN' := Lib.hid (show N = 4 by rw [HN.out]; unfold wn; rw [if_neg (by omega), if_neg (by omega)])
      have HL' := Lib.hid (show L = 128 by rw [HL.out]; unfold wlo; rw [if_neg (by omega), if_neg (by omega)])
      have HU' := Lib.hid (show U = 143 by rw [HU.out]; unfold whi; rw [if_neg (by omega), if_pos (by omega)])
      subst h
      clear hA hc0
      go_wp2
      refine Met.intro ?_
      go_step
      refine meetG (by kernel_rfl) ?_
      rw [HN'.out, HL'.out, HU'.out]
      exact ⟨⟨rfl, rfl, rfl⟩, rfl⟩
  case rest =>
    rintro _ wc ⟨g, ⟨⟨h6, h7, h8⟩, rfl⟩, rfl⟩
    rw [h6, h7, h8]
    clear h6 h7 h8 hA hc0
    by_cases hs : s.size - i < N
    · have HR := Lib.hid (wid_short (s.size - i) b0 (s.get! (i + 1)).toNat (s.get! (i + 2)).toNat (s.get! (i + 3)).toNat HA.out.1 HA.out.2 (by rw [← HN.out]; exact hs))
      have hd : (s.size : Int) - (i : Int) < (N : Int) := by omega
      go_wp2
      go_ret
      exact ⟨ret_int (by rw [HR.out]; rfl), rfl⟩
    have hd : ¬ (s.size : Int) - (i : Int) < (N : Int) := by omega
    obtain ⟨b1, hb1⟩ : ∃ b, b = (s.get! (i + 1)).toNat := ⟨_, rfl⟩
    have hb1l : b1 < 256 := by rw [hb1]; exact UInt8.toNat_lt _
    have hc1 := HAT.out (i + 1) (by omega)
    rw [← hb1] at hc1
    have HB1 := Lib.hid hb1
    clear hb1
    have hj1 : (i : Int) + 1 < (s.size : Int) := by omega
    by_cases hbb : b1 < L ∨ U < b1
    · have HR := Lib.hid (wid_b1 (s.size - i) b0 (s.get! (i + 1)).toNat (s.get! (i + 2)).toNat (s.get! (i + 3)).toNat HA.out.1 HA.out.2 (UInt8.toNat_lt _) (by rw [← HL.out, ← HU.out, ← HB1.out]; exact hbb))
      rcases hbb with hbb | hbb
      · have hd1 : (b1 : Int) < (L : Int) := by omega
        go_wp2
        go_ret
        exact ⟨ret_int (by rw [HR.out]; rfl), rfl⟩
      · have hd1 : (U : Int) < (b1 : Int) := by omega
        by_cases hd2 : b1 < L
        all_goals
          go_wp2
          go_ret
          exact ⟨ret_int (by rw [HR.out]; rfl), rfl⟩
    have hd1 : ¬ b1 < L := by omega
    have hd2 : ¬ U < b1 := by omega
    have HB := Lib.hid (show L ≤ b1 ∧ b1 ≤ U by omega)
    clear hbb
    go_wp2
    clear hc1 hd1 hd2
    go_loop [9] (fun k9 => ∃ k : Nat, 2 ≤ k ∧ k ≤ N ∧ k9 = .int .i64 k ∧ Hid (∀ j, 2 ≤ j → j < k → 128 ≤ (s.get! (i + j)).toNat ∧ (s.get! (i + j)).toNat ≤ 191)) (fun k9 => N - (intOf k9).toNat)
    case atStart => exact ⟨2, Nat.le_refl _, hN2.1, rfl, Lib.hid (fun j h1 h2 => by omega)⟩
    case round =>
      obtain ⟨k, hk2, hkN, rfl, HK⟩ := hrel
      by_cases hlt : k < N
      · obtain ⟨bk, hbk⟩ : ∃ b, b = (s.get! (i + k)).toNat := ⟨_, rfl⟩
        have hbkl : bk < 256 := by rw [hbk]; exact UInt8.toNat_lt _
        have hck := HAT.out (i + k) (by omega)
        rw [← hbk] at hck
        have HBK := Lib.hid hbk
        clear hbk
        have hjk : (i : Int) + (k : Int) < (s.size : Int) := by omega
        have hjk0 : (0 : Int) ≤ (i : Int) + (k : Int) := by omega
        by_cases hbb : bk < 128 ∨ 191 < bk
        · have HR : Hid ((Lib.decodeN (s.size - i) b0 (s.get! (i + 1)).toNat (s.get! (i + 2)).toNat (s.get! (i + 3)).toNat).2 = 1) := Lib.hid (by
            rcases (show k = 2 ∨ k = 3 by omega) with e | e
            · exact wid_b2 _ _ _ _ _ HA.out.1 HA.out.2 (by rw [← HN.out]; omega) (UInt8.toNat_lt _) (by rw [← e, ← HBK.out]; exact hbb)
            · exact wid_b3 _ _ _ _ _ HA.out.1 HA.out.2 (by rw [← HN.out]; omega) (UInt8.toNat_lt _) (by rw [← e, ← HBK.out]; exact hbb))
          rcases hbb with hbb | hbb
          all_goals
            go_wp2
            go_ret
            exact ⟨ret_int (by rw [HR.out]; rfl), rfl⟩
        · have hq1 : ¬ bk < 128 := by omega
          have hq2 : ¬ 191 < bk := by omega
          clear hbb
          go_wp2
          go_round
          case rel =>
            refine ⟨k + 1, by omega, hlt, by go_num, Lib.hid fun j h1 h2 => ?_⟩
            by_cases e : j = k
            · rw [e, ← HBK.out]; omega
            · exact HK.out j h1 (by omega)
          case measure => simp [intOf]; omega
      · obtain rfl : k = N := by omega
        have HR := Lib.hid (wid_all (s.size - i) b0 (s.get! (i + 1)).toNat (s.get! (i + 2)).toNat (s.get! (i + 3)).toNat HA.out.1 HA.out.2 (by rw [← HN.out]; omega) (by rw [← HL.out, ← HB1.out]; exact HB.out.1) (by rw [← HU.out, ← HB1.out]; exact HB.out.2)
          (fun h => HK.out 2 (Nat.le_refl _) (by rw [← HN.out] at h; omega)) (fun h => HK.out 3 (by omega) (by rw [← HN.out] at h; omega)))
        go_wp2
        go_ret
        exact ⟨ret_int (by rw [HR.out, ← HN.out]), rfl⟩
end Go.Proofs.YtcfllmebcfimeaaDoor.Fm
