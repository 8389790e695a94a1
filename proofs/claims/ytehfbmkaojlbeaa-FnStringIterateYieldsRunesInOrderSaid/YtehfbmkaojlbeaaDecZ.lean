/- The laws' own decoder zzDecode gives the rune and the width that the model's decoder gives. -/
import Derived.Test.YtehfbmkaojlbeaaRows
import Derived.Test.YtehfbmkaojlbeaaDecL
import Derived.Test.YtehfbmkaojlbeaaFrame
import Derived.Test.YtehfbmkaojlbeaaCut
import Derived.Lib.RuneCountTail
import Derived.Lib.Hide
import Derived.LoopTactic
import Derived.Deep.LoopGhost
import Derived.Laws.BitsLemmas
import Derived.WalkLawsBesides
import Derived.WalkSpells
import Derived.Outline
namespace Go.Proofs.Ytehfbmkaojlbeaa.Fm
open Go.ChangeShapes Go.WideShapes Go.ChangeAt Go.RowKit Go.Fmt

theorem get_bang (s : ByteArray) (j : Nat) (h : j < s.size) : s[j]'h = s.get! j := by
  cases s with
  | mk d => exact (getElem!_pos d j h).symm
/-- What zzDecode returns. -/
def DecOut (s : ByteArray) (p : Nat) (w : World) (e : Ending) (w' : World) : Prop := e = .returned (.tuple #[.int .i32 (Utf8.decode s p).1, .int .i64 (Utf8.decode s p).2]) ∧ w = w'
theorem decOut_of {s : ByteArray} {p : Nat} {w : World} {r n : Nat} {e : Ending} (h : Utf8.decode s p = (r, n)) (he : e = .returned (.tuple #[.int .i32 r, .int .i64 n])) : DecOut s p w e w := by
  unfold DecOut
  rw [h]
  exact ⟨he, rfl⟩

set_option maxRecDepth 100000 in
set_option maxHeartbeats 8000000 in
theorem zzDecode (s : ByteArray) (p : Nat) (w : World) (hp : p < s.size) (hsz : s.size ≤ 1048576) : Calls Try.prog 6 #[.string s, .int .i64 p] w (DecOut s p w) := by
  obtain ⟨b0, hb0⟩ : ∃ b, b = (s.get! p).toNat := ⟨_, rfl⟩
  have hb0l : b0 < 256 := by rw [hb0]; exact UInt8.toNat_lt _
  have hg0 : (s[p]'hp).toNat = b0 := by rw [get_bang, hb0]
  have HB0 := Lib.hid hb0
  have hi0 : (0 : Int) ≤ (p : Int) := by omega
  have hi1 : (p : Int) < (s.size : Int) := by omega
  clear hb0
  by_cases h128 : b0 < 128
  · have HR : Hid (Utf8.decode s p = (b0, 1)) := Lib.hid (by rw [Lib.decode_at, ← HB0.out]; unfold Lib.decodeN; rw [if_pos h128])
    have hz : (b0 : Int) < 128 := by omega
    go_enter Try.func6, Try.ntmps6
    go_wp2
    go_ret2
    exact decOut_of HR.out rfl
  have h128' : 128 ≤ b0 := by omega
  have HBAD : Hid ((Lib.decodeN (s.size - p) b0 (s.get! (p + 1)).toNat (s.get! (p + 2)).toNat (s.get! (p + 3)).toNat).2 = 1 → Utf8.decode s p = (65533, 1)) := Lib.hid (fun h => by rw [Lib.decode_at, ← HB0.out]; exact dec_one _ _ _ _ _ h128' h)
  have hz : (128 : Int) ≤ (b0 : Int) := by omega
  clear h128
  by_cases hbad : b0 < 194 ∨ 244 < b0
  · have HR := Lib.hid (HBAD.out (wid_bad _ _ _ _ _ h128' hbad hb0l))
    have e1 : ((b0 : Int) == 224) = false := by simp; omega
    have e2 : ((b0 : Int) == 237) = false := by simp; omega
    have e3 : ((b0 : Int) == 238) = false := by simp; omega
    have e4 : ((b0 : Int) == 239) = false := by simp; omega
    have e5 : ((b0 : Int) == 240) = false := by simp; omega
    have e6 : ((b0 : Int) == 244) = false := by simp; omega
    rcases hbad with hbad | hbad
    all_goals
      go_enter Try.func6, Try.ntmps6
      go_wp2
      go_ret2
      exact decOut_of HR.out rfl
  have hA : 194 ≤ b0 ∧ b0 ≤ 244 := by omega
  clear hbad
  obtain ⟨M, hM⟩ : ∃ M, M + 1 = wn b0 := ⟨wn b0 - 1, by have := wn_cases b0; omega⟩
  obtain ⟨L, hL⟩ : ∃ N, N = wlo b0 := ⟨_, rfl⟩
  obtain ⟨U, hU⟩ : ∃ N, N = whi b0 := ⟨_, rfl⟩
  obtain ⟨R, hR⟩ : ∃ N, N = wr0 b0 := ⟨_, rfl⟩
  have HM := Lib.hid hM
  have HL := Lib.hid hL
  have HU := Lib.hid hU
  have HRR := Lib.hid hR
  have hM2 : 1 ≤ M ∧ M ≤ 3 := by have := wn_cases b0; omega
  have hR31 : R ≤ 31 := by rw [hR]; unfold wr0; split <;> (try split) <;> omega
  have HA := Lib.hid hA
  clear hM hL hU hR
  go_enter Try.func6, Try.ntmps6
  go_upto_if 26 with (fail)
  refine wp_cut (fun a' w' => ∃ g : Nat → Value, ((g 7 = .int .i64 M ∧ g 8 = .int .u8 L ∧ g 9 = .int .u8 U ∧ g 10 = .int .i32 R) ∧ w = w') ∧ a' = ⟨#[.string s, .int .i64 p, g 2, g 3, g 4, g 5, g 6, g 7, g 8, g 9, g 10, g 11, g 12, g 13, g 14, g 15, g 16, g 17, g 18, g 19, g 20, g 21, g 22, g 23, g 24, g 25, g 26, g 27, g 28, g 29, g 30, g 31, g 32, g 33, g 34, g 35, g 36, g 37, g 38, g 39, g 40, g 41, g 42, g 43, g 44, g 45, g 46, g 47, g 48, g 49, g 50, g 51, g 52, g 53, g 54, g 55, g 56, g 57, g 58, g 59, g 60, g 61, g 62, g 63, g 64, g 65, g 66, g 67, g 68, g 69, g 70, g 71, g 72, g 73, g 74, g 75, g 76, g 77, g 78, g 79, g 80, g 81, g 82, g 83, g 84, g 85, g 86, g 87, g 88, g 89, g 90, g 91, g 92, g 93, g 94, g 95, g 96, g 97, g 98, g 99, g 100, g 101, g 102, g 103, g 104, g 105, g 106, g 107, g 108, g 109, g 110, g 111, g 112, g 113, g 114, g 115, g 116, g 117, g 118, g 119, g 120, g 121, g 122, g 123, g 124, g 125], []⟩) ?rest ?first
  case first =>
    intro _ _ _ _
    rcases (show b0 ≤ 223 ∨ b0 = 224 ∨ (225 ≤ b0 ∧ b0 ≤ 236) ∨ b0 = 237 ∨ b0 = 238 ∨ b0 = 239 ∨ b0 = 240 ∨ (241 ≤ b0 ∧ b0 ≤ 243) ∨ b0 = 244 by omega) with h | h | h | h | h | h | h | h | h
    · have HM' := Lib.hid (show M = 1 by have := HM.out; unfold wn at this; split at this <;> (try split at this) <;> omega)
      have HL' := Lib.hid (show L = 128 by rw [HL.out]; unfold wlo; split <;> (try split) <;> omega)
      have HU' := Lib.hid (show U = 191 by rw [HU.out]; unfold whi; split <;> (try split) <;> omega)
      have HR' := Lib.hid (show (R : Int) = (b0 : Int) % 32 by rw [HRR.out]; unfold wr0; split <;> (try split) <;> omega)
      have q1 : (194 : Int) ≤ (b0 : Int) := by omega
      have q2 : (b0 : Int) ≤ 223 := by omega
      have e224 : ((b0 : Int) == 224) = false := by simp; omega
      have e237 : ((b0 : Int) == 237) = false := by simp; omega
      have e238 : ((b0 : Int) == 238) = false := by simp; omega
      have e239 : ((b0 : Int) == 239) = false := by simp; omega
      have e240 : ((b0 : Int) == 240) = false := by simp; omega
      have e244 : ((b0 : Int) == 244) = false := by simp; omega
      have r1 : ¬ (225 : Int) ≤ (b0 : Int) := by omega
      have ha := u8_and31 (b0 : Int) (by omega) (by omega)
      clear h hA
      go_wp2
      refine Met.intro ?_
      go_step
      refine meetG (by kernel_rfl) ?_
      rw [HM'.out, HL'.out, HU'.out]
      exact ⟨⟨rfl, rfl, rfl, congrArg (Value.int .i32) HR'.out.symm⟩, rfl⟩
    · have HM' := Lib.hid (show M = 2 by have := HM.out; unfold wn at this; split at this <;> (try split at this) <;> omega)
      have HL' := Lib.hid (show L = 160 by rw [HL.out]; unfold wlo; split <;> (try split) <;> omega)
      have HU' := Lib.hid (show U = 191 by rw [HU.out]; unfold whi; split <;> (try split) <;> omega)
      have HR' := Lib.hid (show (R : Int) = (b0 : Int) % 16 by rw [HRR.out]; unfold wr0; split <;> (try split) <;> omega)
      have q1 : (194 : Int) ≤ (b0 : Int) := by omega
      have q2 : ¬ (b0 : Int) ≤ 223 := by omega
      have e224 : ((b0 : Int) == 224) = true := by simp; omega
      have e237 : ((b0 : Int) == 237) = false := by simp; omega
      have e238 : ((b0 : Int) == 238) = false := by simp; omega
      have e239 : ((b0 : Int) == 239) = false := by simp; omega
      have e240 : ((b0 : Int) == 240) = false := by simp; omega
      have e244 : ((b0 : Int) == 244) = false := by simp; omega
      have r1 : ¬ (225 : Int) ≤ (b0 : Int) := by omega
      have ha := u8_and15 (b0 : Int) (by omega) (by omega)
      clear h hA
      go_wp2
      refine Met.intro ?_
      go_step
      refine meetG (by kernel_rfl) ?_
      rw [HM'.out, HL'.out, HU'.out]
      exact ⟨⟨rfl, rfl, rfl, congrArg (Value.int .i32) HR'.out.symm⟩, rfl⟩
    · have HM' := Lib.hid (show M = 2 by have := HM.out; unfold wn at this; split at this <;> (try split at this) <;> omega)
      have HL' := Lib.hid (show L = 128 by rw [HL.out]; unfold wlo; split <;> (try split) <;> omega)
      have HU' := Lib.hid (show U = 191 by rw [HU.out]; unfold whi; split <;> (try split) <;> omega)
      have HR' := Lib.hid (show (R : Int) = (b0 : Int) % 16 by rw [HRR.out]; unfold wr0; split <;> (try split) <;> omega)
      have q1 : (194 : Int) ≤ (b0 : Int) := by omega
      have q2 : ¬ (b0 : Int) ≤ 223 := by omega
      have e224 : ((b0 : Int) == 224) = false := by simp; omega
      have e237 : ((b0 : Int) == 237) = false := by simp; omega
      have e238 : ((b0 : Int) == 238) = false := by simp; omega
      have e239 : ((b0 : Int) == 239) = false := by simp; omega
      have e240 : ((b0 : Int) == 240) = false := by simp; omega
      have e244 : ((b0 : Int) == 244) = false := by simp; omega
      have r1 : (225 : Int) ≤ (b0 : Int) := by omega
      have r2 : (b0 : Int) ≤ 236 := by omega
      have ha := u8_and15 (b0 : Int) (by omega) (by omega)
      clear h hA
      go_wp2
      refine Met.intro ?_
      go_step
      refine meetG (by kernel_rfl) ?_
      rw [HM'.out, HL'.out, HU'.out]
      exact ⟨⟨rfl, rfl, rfl, congrArg (Value.int .i32) HR'.out.symm⟩, rfl⟩
    · have HM' := Lib.hid (show M = 2 by have := HM.out; unfold wn at this; split at this <;> (try split at this) <;> omega)
      have HL' := Lib.hid (show L = 128 by rw [HL.out]; unfold wlo; split <;> (try split) <;> omega)
      have HU' := Lib.hid (show U = 159 by rw [HU.out]; unfold whi; split <;> (try split) <;> omega)
      have HR' := Lib.hid (show (R : Int) = (b0 : Int) % 16 by rw [HRR.out]; unfold wr0; split <;> (try split) <;> omega)
      have q1 : (194 : Int) ≤ (b0 : Int) := by omega
      have q2 : ¬ (b0 : Int) ≤ 223 := by omega
      have e224 : ((b0 : Int) == 224) = false := by simp; omega
      have e237 : ((b0 : Int) == 237) = true := by simp; omega
      have e238 : ((b0 : Int) == 238) = false := by simp; omega
      have e239 : ((b0 : Int) == 239) = false := by simp; omega
      have e240 : ((b0 : Int) == 240) = false := by simp; omega
      have e244 : ((b0 : Int) == 244) = false := by simp; omega
      have r1 : (225 : Int) ≤ (b0 : Int) := by omega
      have r2 : ¬ (b0 : Int) ≤ 236 := by omega
      have ha := u8_and15 (b0 : Int) (by omega) (by omega)
      clear h hA
      go_wp2
      refine Met.intro ?_
      go_step
      refine meetG (by kernel_rfl) ?_
      rw [HM'.out, HL'.out, HU'.out]
      exact ⟨⟨rfl, rfl, rfl, congrArg (Value.int .i32) HR'.out.symm⟩, rfl⟩
    · have HM' := Lib.hid (show M = 2 by have := HM.out; unfold wn at this; split at this <;> (try split at this) <;> omega)
      have HL' := Lib.hid (show L = 128 by rw [HL.out]; unfold wlo; split <;> (try split) <;> omega)
      have HU' := Lib.hid (show U = 191 by rw [HU.out]; unfold whi; split <;> (try split) <;> omega)
      have HR' := Lib.hid (show (R : Int) = (b0 : Int) % 16 by rw [HRR.out]; unfold wr0; split <;> (try split) <;> omega)
      have q1 : (194 : Int) ≤ (b0 : Int) := by omega
      have q2 : ¬ (b0 : Int) ≤ 223 := by omega
      have e224 : ((b0 : Int) == 224) = false := by simp; omega
      have e237 : ((b0 : Int) == 237) = false := by simp; omega
      have e238 : ((b0 : Int) == 238) = true := by simp; omega
      have e239 : ((b0 : Int) == 239) = false := by simp; omega
      have e240 : ((b0 : Int) == 240) = false := by simp; omega
      have e244 : ((b0 : Int) == 244) = false := by simp; omega
      have r1 : (225 : Int) ≤ (b0 : Int) := by omega
      have r2 : ¬ (b0 : Int) ≤ 236 := by omega
      have r3 : ¬ (241 : Int) ≤ (b0 : Int) := by omega
      have ha := u8_and15 (b0 : Int) (by omega) (by omega)
      clear h hA
      go_wp2
      refine Met.intro ?_
      go_step
      refine meetG (by kernel_rfl) ?_
      rw [HM'.out, HL'.out, HU'.out]
      exact ⟨⟨rfl, rfl, rfl, congrArg (Value.int .i32) HR'.out.symm⟩, rfl⟩
    · have HM' := Lib.hid (show M = 2 by have := HM.out; unfold wn at this; split at this <;> (try split at this) <;> omega)
      have HL' := Lib.hid (show L = 128 by rw [HL.out]; unfold wlo; split <;> (try split) <;> omega)
      have HU' := Lib.hid (show U = 191 by rw [HU.out]; unfold whi; split <;> (try split) <;> omega)
      have HR' := Lib.hid (show (R : Int) = (b0 : Int) % 16 by rw [HRR.out]; unfold wr0; split <;> (try split) <;> omega)
      have q1 : (194 : Int) ≤ (b0 : Int) := by omega
      have q2 : ¬ (b0 : Int) ≤ 223 := by omega
      have e224 : ((b0 : Int) == 224) = false := by simp; omega
      have e237 : ((b0 : Int) == 237) = false := by simp; omega
      have e238 : ((b0 : Int) == 238) = false := by simp; omega
      have e239 : ((b0 : Int) == 239) = true := by simp; omega
      have e240 : ((b0 : Int) == 240) = false := by simp; omega
      have e244 : ((b0 : Int) == 244) = false := by simp; omega
      have r1 : (225 : Int) ≤ (b0 : Int) := by omega
      have r2 : ¬ (b0 : Int) ≤ 236 := by omega
      have r3 : ¬ (241 : Int) ≤ (b0 : Int) := by omega
      have ha := u8_and15 (b0 : Int) (by omega) (by omega)
      clear h hA
      go_wp2
      refine Met.intro ?_
      go_step
      refine meetG (by kernel_rfl) ?_
      rw [HM'.out, HL'.out, HU'.out]
      exact ⟨⟨rfl, rfl, rfl, congrArg (Value.int .i32) HR'.out.symm⟩, rfl⟩
    · have HM' := Lib.hid (show M = 3 by have := HM.out; unfold wn at this; split at this <;> (try split at this) <;> omega)
      have HL' := Lib.hid (show L = 144 by rw [HL.out]; unfold wlo; split <;> (try split) <;> omega)
      have HU' := Lib.hid (show U = 191 by rw [HU.out]; unfold whi; split <;> (try split) <;> omega)
      have HR' := Lib.hid (show (R : Int) = (b0 : Int) % 8 by rw [HRR.out]; unfold wr0; split <;> (try split) <;> omega)
      have q1 : (194 : Int) ≤ (b0 : Int) := by omega
      have q2 : ¬ (b0 : Int) ≤ 223 := by omega
      have e224 : ((b0 : Int) == 224) = false := by simp; omega
      have e237 : ((b0 : Int) == 237) = false := by simp; omega
      have e238 : ((b0 : Int) == 238) = false := by simp; omega
      have e239 : ((b0 : Int) == 239) = false := by simp; omega
      have e240 : ((b0 : Int) == 240) = true := by simp; omega
      have e244 : ((b0 : Int) == 244) = false := by simp; omega
      have r1 : (225 : Int) ≤ (b0 : Int) := by omega
      have r2 : ¬ (b0 : Int) ≤ 236 := by omega
      have r3 : ¬ (241 : Int) ≤ (b0 : Int) := by omega
      have ha := u8_and7 (b0 : Int) (by omega) (by omega)
      clear h hA
      go_wp2
      refine Met.intro ?_
      go_step
      refine meetG (by kernel_rfl) ?_
      rw [HM'.out, HL'.out, HU'.out]
      exact ⟨⟨rfl, rfl, rfl, congrArg (Value.int .i32) HR'.out.symm⟩, rfl⟩
    · have HM' := Lib.hid (show M = 3 by have := HM.out; unfold wn at this; split at this <;> (try split at this) <;> omega)
      have HL' := Lib.hid (show L = 128 by rw [HL.out]; unfold wlo; split <;> (try split) <;> omega)
      have HU' := Lib.hid (show U = 191 by rw [HU.out]; unfold whi; split <;> (try split) <;> omega)
      have HR' := Lib.hid (show (R : Int) = (b0 : Int) % 8 by rw [HRR.out]; unfold wr0; split <;> (try split) <;> omega)
      have q1 : (194 : Int) ≤ (b0 : Int) := by omega
      have q2 : ¬ (b0 : Int) ≤ 223 := by omega
      have e224 : ((b0 : Int) == 224) = false := by simp; omega
      have e237 : ((b0 : Int) == 237) = false := by simp; omega
      have e238 : ((b0 : Int) == 238) = false := by simp; omega
      have e239 : ((b0 : Int) == 239) = false := by simp; omega
      have e240 : ((b0 : Int) == 240) = false := by simp; omega
      have e244 : ((b0 : Int) == 244) = false := by simp; omega
      have r1 : (225 : Int) ≤ (b0 : Int) := by omega
      have r2 : ¬ (b0 : Int) ≤ 236 := by omega
      have r3 : (241 : Int) ≤ (b0 : Int) := by omega
      have r4 : (b0 : Int) ≤ 243 := by omega
      have ha := u8_and7 (b0 : Int) (by omega) (by omega)
      clear h hA
      go_wp2
      refine Met.intro ?_
      go_step
      refine meetG (by kernel_rfl) ?_
      rw [HM'.out, HL'.out, HU'.out]
      exact ⟨⟨rfl, rfl, rfl, congrArg (Value.int .i32) HR'.out.symm⟩, rfl⟩
    · have HM' := Lib.hid (show M = 3 by have := HM.out; unfold wn at this; split at this <;> (try split at this) <;> omega)
      have HL' := Lib.hid (show L = 128 by rw [HL.out]; unfold wlo; split <;> (try split) <;> omega)
      have HU' := Lib.hid (show U = 143 by rw [HU.out]; unfold whi; split <;> (try split) <;> omega)
      have HR' := Lib.hid (show (R : Int) = (b0 : Int) % 8 by rw [HRR.out]; unfold wr0; split <;> (try split) <;> omega)
      have q1 : (194 : Int) ≤ (b0 : Int) := by omega
      have q2 : ¬ (b0 : Int) ≤ 223 := by omega
      have e224 : ((b0 : Int) == 224) = false := by simp; omega
      have e237 : ((b0 : Int) == 237) = false := by simp; omega
      have e238 : ((b0 : Int) == 238) = false := by simp; omega
      have e239 : ((b0 : Int) == 239) = false := by simp; omega
      have e240 : ((b0 : Int) == 240) = false := by simp; omega
      have e244 : ((b0 : Int) == 244) = true := by simp; omega
      have r1 : (225 : Int) ≤ (b0 : Int) := by omega
      have r2 : ¬ (b0 : Int) ≤ 236 := by omega
      have r3 : (241 : Int) ≤ (b0 : Int) := by omega
      have r4 : ¬ (b0 : Int) ≤ 243 := by omega
      have ha := u8_and7 (b0 : Int) (by omega) (by omega)
      clear h hA
      go_wp2
      refine Met.intro ?_
      go_step
      refine meetG (by kernel_rfl) ?_
      rw [HM'.out, HL'.out, HU'.out]
      exact ⟨⟨rfl, rfl, rfl, congrArg (Value.int .i32) HR'.out.symm⟩, rfl⟩
  case rest =>
    rintro _ wc ⟨g, ⟨⟨h7, h8, h9, h10⟩, rfl⟩, rfl⟩
    rw [h7, h8, h9, h10]
    clear h7 h8 h9 h10 hA hg0
    by_cases hs : s.size - p < M + 1
    · have HR := Lib.hid (HBAD.out (wid_short _ _ _ _ _ HA.out.1 HA.out.2 (by rw [← HM.out]; exact hs)))
      have hd : (s.size : Int) - (p : Int) < (M : Int) + 1 := by omega
      go_wp2
      go_ret2
      exact decOut_of HR.out rfl
    have hd : ¬ (s.size : Int) - (p : Int) < (M : Int) + 1 := by omega
    have hp1 : p + 1 < s.size := by omega
    obtain ⟨b1, hb1⟩ : ∃ b, b = (s.get! (p + 1)).toNat := ⟨_, rfl⟩
    have hb1l : b1 < 256 := by rw [hb1]; exact UInt8.toNat_lt _
    have hg1 : (s[p + 1]'hp1).toNat = b1 := by rw [get_bang, hb1]
    have HB1 := Lib.hid hb1
    clear hb1
    have hj1 : (p : Int) + 1 < (s.size : Int) := by omega
    by_cases hbb : b1 < L ∨ U < b1
    · have HR := Lib.hid (HBAD.out (wid_b1 _ _ _ _ _ HA.out.1 HA.out.2 (UInt8.toNat_lt _) (by rw [← HL.out, ← HU.out, ← HB1.out]; exact hbb)))
      by_cases hd2 : b1 < L
      · have hd1 : (b1 : Int) < (L : Int) := by omega
        go_wp2
        go_ret2
        exact decOut_of HR.out rfl
      · have hd1 : (U : Int) < (b1 : Int) := by omega
        go_wp2
        go_ret2
        exact decOut_of HR.out rfl
    have hd1 : ¬ b1 < L := by omega
    have hd2 : ¬ U < b1 := by omega
    have HB := Lib.hid (show L ≤ b1 ∧ b1 ≤ U by omega)
    have a1 := u8_and63 (b1 : Int) (by omega) (by omega)
    have y1 := i32_or6 ((R : Int) * 64) ((b1 : Int) % 64) (by omega) (by omega) (by omega) (by omega) (by omega)
    clear hbb
    go_wp2
    clear hg1 hd1 hd2 a1 y1
    obtain ⟨A, hA0⟩ : ∃ A : Int, A = (R : Int) * 64 + (b1 : Int) % 64 := ⟨_, rfl⟩
    rw [← hA0]
    have hA1 : 0 ≤ A ∧ A ≤ 2047 := by omega
    have HA0 := Lib.hid hA0
    clear hA0
    go_loop [10, 12] (fun rv jv => ∃ (k : Nat) (ρ : Int), 2 ≤ k ∧ k ≤ M + 1 ∧ jv = .int .i64 k ∧ rv = .int .i32 ρ ∧ 0 ≤ ρ ∧ (k ≤ 3 → ρ ≤ 131071) ∧ Hid (ρ = if k = 2 then A else if k = 3 then A * 64 + ((s.get! (p + 2)).toNat : Int) % 64 else (A * 64 + ((s.get! (p + 2)).toNat : Int) % 64) * 64 + ((s.get! (p + 3)).toNat : Int) % 64) ∧ Hid (∀ j, 2 ≤ j → j < k → 128 ≤ (s.get! (p + j)).toNat ∧ (s.get! (p + j)).toNat ≤ 191)) (fun _ jv => M + 1 - (intOf jv).toNat)
    case atStart => exact ⟨2, A, Nat.le_refl _, by omega, rfl, rfl, hA1.1, fun _ => by omega, Lib.hid (by rw [if_pos rfl]), Lib.hid (fun j h1 h2 => by omega)⟩
    case round =>
      obtain ⟨k, ρ, hk2, hkM, rfl, rfl, hρ0, hρ1, HP, HK⟩ := hrel
      by_cases hlt : k < M + 1
      · have hpk : p + k < s.size := by omega
        obtain ⟨bk, hbk⟩ : ∃ b, b = (s.get! (p + k)).toNat := ⟨_, rfl⟩
        have hbkl : bk < 256 := by rw [hbk]; exact UInt8.toNat_lt _
        have hgk : (s[p + k]'hpk).toNat = bk := by rw [get_bang, hbk]
        have HBK := Lib.hid hbk
        clear hbk
        have hjk : (p : Int) + (k : Int) < (s.size : Int) := by omega
        have hjk0 : (0 : Int) ≤ (p : Int) + (k : Int) := by omega
        have hkle : (k : Int) ≤ (M : Int) := by omega
        by_cases hbb : bk < 128 ∨ 191 < bk
        · have HR := Lib.hid (HBAD.out (by
            rcases (show k = 2 ∨ k = 3 by omega) with e | e
            · exact wid_b2 _ _ _ _ _ HA.out.1 HA.out.2 (by rw [← HM.out]; omega) (UInt8.toNat_lt _) (by rw [← e, ← HBK.out]; exact hbb)
            · exact wid_b3 _ _ _ _ _ HA.out.1 HA.out.2 (by rw [← HM.out]; omega) (UInt8.toNat_lt _) (by rw [← e, ← HBK.out]; exact hbb)))
          clear hρ1
          rcases hbb with hbb | hbb
          all_goals
            go_wp2
            go_ret2
            exact decOut_of HR.out rfl
        · have hq1 : ¬ bk < 128 := by omega
          have hq2 : ¬ 191 < bk := by omega
          have hρ2 := hρ1 (by omega)
          have a2 := u8_and63 (bk : Int) (by omega) (by omega)
          have y2 := i32_or6 (ρ * 64) ((bk : Int) % 64) (by omega) (by omega) (by omega) (by omega) (by omega)
          clear hbb hρ1
          go_wp2
          clear a2 y2
          go_round
          case rel =>
            refine ⟨k + 1, ρ * 64 + (bk : Int) % 64, by omega, by omega, by go_num, rfl, by omega, fun h3 => ?_, Lib.hid ?_, Lib.hid fun j h1 h2 => ?_⟩
            · obtain rfl : k = 2 := by omega
              have := HP.out
              rw [if_pos rfl] at this
              omega
            · have h4 := HP.out
              rcases (show k = 2 ∨ k = 3 by omega) with e | e
              · subst e
                rw [if_pos rfl] at h4
                rw [if_neg (by omega), if_pos (by omega), h4, HBK.out]
              · subst e
                rw [if_neg (by omega), if_pos rfl] at h4
                rw [if_neg (by omega), if_neg (by omega), h4, HBK.out]
            · by_cases e : j = k
              · rw [e, ← HBK.out]; omega
              · exact HK.out j h1 (by omega)
          case measure => simp [intOf]; omega
      · obtain rfl : k = M + 1 := by omega
        have hkle : ¬ ((M : Int) + 1 ≤ (M : Int)) := by omega
        have hW := wid_all (s.size - p) b0 (s.get! (p + 1)).toNat (s.get! (p + 2)).toNat (s.get! (p + 3)).toNat HA.out.1 HA.out.2 (by rw [← HM.out]; omega) (by rw [← HL.out, ← HB1.out]; exact HB.out.1) (by rw [← HU.out, ← HB1.out]; exact HB.out.2)
          (fun h => HK.out 2 (Nat.le_refl _) (by rw [← HM.out] at h; omega)) (fun h => HK.out 3 (by omega) (by rw [← HM.out] at h; omega))
        have hV := dec_all _ _ _ _ _ HA.out.1 HA.out.2 hW
        have HR : Hid (Utf8.decode s p = (ρ.toNat, M + 1)) := Lib.hid (by
          rw [Lib.decode_at, ← HB0.out]
          refine Prod.ext ?_ ?_
          · rw [hV]
            have h4 := HP.out
            have h5 := HA0.out
            rw [← HM.out, ← HRR.out, ← HB1.out]
            rcases (show M = 1 ∨ M = 2 ∨ M = 3 by omega) with e | e | e
            · subst e; rw [if_pos rfl] at h4 ⊢; simp only; omega
            · subst e; rw [if_neg (by omega), if_pos rfl] at h4 ⊢; simp only; omega
            · subst e; rw [if_neg (by omega), if_neg (by omega)] at h4 ⊢; simp only; omega
          · rw [hW, ← HM.out])
        have hρn : (ρ.toNat : Int) = ρ := by omega
        have HRN := Lib.hid hρn
        clear hW hV hρ1 hρn
        go_wp2
        go_ret2
        refine decOut_of HR.out ?_
        rw [HRN.out]
        rfl
end Go.Proofs.Ytehfbmkaojlbeaa.Fm
