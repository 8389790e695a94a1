/- The rune that the laws' own decoder reckons beside its width: plain facts over XWidL; no program. -/
import Derived.Test.YtehfbmkaojlbeaaWidL
namespace Go.Fmt
open Go.Lib
/-- The bits of the lead byte. -/
def wr0 (b : Nat) : Nat := if b < 224 then b % 32 else if b < 240 then b % 16 else b % 8
theorem dec_one (m b0 b1 b2 b3 : Nat) (h0 : 128 ≤ b0) (h : (decodeN m b0 b1 b2 b3).2 = 1) : decodeN m b0 b1 b2 b3 = (65533, 1) := by
  revert h
  unfold decodeN
  rw [if_neg (by omega)]
  split
  · split <;> simp
  split
  · split <;> simp
  split
  · split <;> simp
  simp
theorem dec_all (m b0 b1 b2 b3 : Nat) (h1 : 194 ≤ b0) (h2 : b0 ≤ 244) (h : (decodeN m b0 b1 b2 b3).2 = wn b0) :
    (decodeN m b0 b1 b2 b3).1 = if wn b0 = 2 then wr0 b0 * 64 + b1 % 64 else if wn b0 = 3 then (wr0 b0 * 64 + b1 % 64) * 64 + b2 % 64 else ((wr0 b0 * 64 + b1 % 64) * 64 + b2 % 64) * 64 + b3 % 64 := by
  revert h
  unfold decodeN wn wr0
  rw [if_neg (by omega)]
  by_cases a : b0 < 224
  · simp only [if_pos a]
    split
    · split <;> simp
    · rw [if_neg (by omega), if_neg (by omega)]
      simp
  · by_cases b : b0 < 240
    · simp only [if_neg a, if_pos b]
      rw [if_neg (by omega)]
      split
      · split
        · intro _; simp; omega
        · simp
      · rw [if_neg (by omega)]; simp
    · simp only [if_neg a, if_neg b]
      rw [if_neg (by omega), if_neg (by omega)]
      split
      · split
        · intro _; simp; omega
        · simp
      · simp
end Go.Fmt
