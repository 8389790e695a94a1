/- Plain facts on the encoding of one rune: decoded by the model's own function it is one rune of its own width. No program. -/
import Derived.Test.YtfpjkkjhdblmkaaDoorBuf
import Derived.Lib.TrimUEq
import Derived.Lib.RuneCount
namespace Go.Fmt
open Go.Lib

theorem decN1 (n b0 b1 b2 b3 : Nat) (h : b0 < 128) : decodeN n b0 b1 b2 b3 = (b0, 1) := by
  unfold decodeN; rw [if_pos h]
theorem decN2 (n b0 b1 b2 b3 c : Nat) (hn : 1 < n) (h0 : b0 = 192 + c / 64) (h1 : b1 = 128 + c % 64) (hc : 128 ≤ c) (hc2 : c ≤ 2047) : decodeN n b0 b1 b2 b3 = (c, 2) := by
  unfold decodeN
  rw [if_neg (by omega), if_pos ⟨by omega, hn, by omega⟩, if_pos (by omega)]
  congr 1
  omega
theorem decN3 (n b0 b1 b2 b3 c : Nat) (hn : 2 < n) (h0 : b0 = 224 + c / 4096) (h1 : b1 = 128 + c / 64 % 64) (h2 : b2 = 128 + c % 64) (hc : 2048 ≤ c ∧ c ≤ 55295 ∨ 57344 ≤ c ∧ c ≤ 65535) : decodeN n b0 b1 b2 b3 = (c, 3) := by
  unfold decodeN
  have e : b0 % 16 * 4096 + b1 % 64 * 64 + b2 % 64 = c := by omega
  rw [if_neg (by omega), if_neg (by omega), if_pos ⟨by omega, ⟨by omega, by omega⟩, hn, by omega⟩, e, if_pos (by omega)]
theorem decN4 (n b0 b1 b2 b3 c : Nat) (hn : 3 < n) (h0 : b0 = 240 + c / 262144) (h1 : b1 = 128 + c / 4096 % 64) (h2 : b2 = 128 + c / 64 % 64) (h3 : b3 = 128 + c % 64) (hc : 65536 ≤ c) (hc2 : c ≤ 1114111) : decodeN n b0 b1 b2 b3 = (c, 4) := by
  unfold decodeN
  have e : b0 % 8 * 262144 + b1 % 64 * 4096 + b2 % 64 * 64 + b3 % 64 = c := by omega
  rw [if_neg (by omega), if_neg (by omega), if_neg (by omega), if_pos ⟨by omega, ⟨by omega, by omega⟩, ⟨by omega, by omega⟩, hn, by omega⟩, e, if_pos (by omega)]

/-- The rune that is decoded out of the encoding of r. -/
def goodRune (r : Int) : Nat := if 0 ≤ r ∧ r ≤ 1114111 ∧ ¬ (55296 ≤ r ∧ r ≤ 57343) then r.toNat else 65533

/-- Decoded at its head, the encoding of one rune, whatever follows it. -/
theorem dec_encB (r : Int) (t : List UInt8) : decodeL (encB r ++ t) = (goodRune r, (encB r).length) := by
  rw [decodeL_N]
  have hb : ∀ x : Int, 0 ≤ x → x < 256 → (UInt8.ofNat x.toNat).toNat = x.toNat := fun x h0 h1 => by rw [UInt8.toNat_ofNat']; omega
  unfold goodRune
  rcases encI_cases r with h | h | h | h | h | h | h | h
  · rw [if_pos (by omega)]
    simp only [encB, encI_one h.1 h.2, List.map_cons, List.map_nil, List.cons_append, List.nil_append, List.getD_cons_zero, List.length_cons, List.length_nil]
    rw [hb _ (by omega) (by omega)]
    exact decN1 _ _ _ _ _ (by omega)
  · rw [if_pos (by omega)]
    simp only [encB, encI_two h.1 h.2, List.map_cons, List.map_nil, List.cons_append, List.nil_append, List.getD_cons_zero, List.getD_cons_succ, List.length_cons, List.length_nil]
    rw [hb _ (by omega) (by omega), hb _ (by omega) (by omega)]
    exact decN2 _ _ _ _ _ r.toNat (by omega) (by omega) (by omega) (by omega) (by omega)
  · rw [if_pos (by omega)]
    simp only [encB, encI_three (.inl h), List.map_cons, List.map_nil, List.cons_append, List.nil_append, List.getD_cons_zero, List.getD_cons_succ, List.length_cons, List.length_nil]
    rw [hb _ (by omega) (by omega), hb _ (by omega) (by omega), hb _ (by omega) (by omega)]
    exact decN3 _ _ _ _ _ r.toNat (by omega) (by omega) (by omega) (by omega) (by omega)
  · rw [if_pos (by omega)]
    simp only [encB, encI_three (.inr h), List.map_cons, List.map_nil, List.cons_append, List.nil_append, List.getD_cons_zero, List.getD_cons_succ, List.length_cons, List.length_nil]
    rw [hb _ (by omega) (by omega), hb _ (by omega) (by omega), hb _ (by omega) (by omega)]
    exact decN3 _ _ _ _ _ r.toNat (by omega) (by omega) (by omega) (by omega) (by omega)
  · rw [if_pos (by omega)]
    simp only [encB, encI_four h.1 h.2, List.map_cons, List.map_nil, List.cons_append, List.nil_append, List.getD_cons_zero, List.getD_cons_succ, List.length_cons, List.length_nil]
    rw [hb _ (by omega) (by omega), hb _ (by omega) (by omega), hb _ (by omega) (by omega), hb _ (by omega) (by omega)]
    exact decN4 _ _ _ _ _ r.toNat (by omega) (by omega) (by omega) (by omega) (by omega) (by omega) (by omega)
  all_goals
    rw [if_neg (by omega)]
    simp only [encB, encI_bad (r := r) (by omega), List.map_cons, List.map_nil, List.cons_append, List.nil_append, List.getD_cons_zero, List.getD_cons_succ, List.length_cons, List.length_nil]
    exact decN3 _ _ _ _ _ 65533 (by omega) (by decide) (by decide) (by decide) (by omega)

theorem encB_ne (r : Int) : 0 < (encB r).length := by
  have := (encI_length r).1
  simp [encB]; omega

/-- One encoding is one rune. -/
theorem runeCount_encB (r : Int) : Lib.runeCount ⟨(encB r).toArray⟩ = 1 := by
  have hp := encB_ne r
  have hs : (⟨(encB r).toArray⟩ : ByteArray).size = (encB r).length := by simp [ByteArray.size]
  have hd := dec_encB r []
  rw [List.append_nil] at hd
  unfold decodeL at hd
  unfold Lib.runeCount
  rw [hs]
  obtain ⟨k, hk⟩ : ∃ k, (encB r).length = k + 1 := ⟨(encB r).length - 1, by omega⟩
  rw [hk]
  unfold Lib.runeCountFrom
  rw [if_pos (by rw [hs]; exact hp), hd, Lib.runeCountFrom_end _ _ _ (by rw [hs]; omega)]
end Go.Fmt
