/- The width of a rune, as the laws' own helper reckons it: plain facts; no program. -/
import Derived.Lib.DecodeN
namespace Go.Fmt
open Go.Lib
def wn (b : Nat) : Nat := if b < 224 then 2 else if b < 240 then 3 else 4
def wlo (b : Nat) : Nat := if b = 224 then 160 else if b = 240 then 144 else 128
def whi (b : Nat) : Nat := if b = 237 then 159 else if b = 244 then 143 else 191
theorem wn_cases (b : Nat) : wn b = 2 ∨ wn b = 3 ∨ wn b = 4 := by unfold wn; split <;> (try split) <;> simp
theorem wid_ascii (m b0 b1 b2 b3 : Nat) (h : b0 < 128) : (decodeN m b0 b1 b2 b3).2 = 1 := by unfold decodeN; rw [if_pos h]
theorem wid_bad (m b0 b1 b2 b3 : Nat) (h0 : 128 ≤ b0) (h : b0 < 194 ∨ 244 < b0) (hb : b0 < 256) : (decodeN m b0 b1 b2 b3).2 = 1 := by
  unfold decodeN
  rw [if_neg (by omega)]
  split
  · rw [if_neg (by omega)]
  split
  · exfalso; omega
  split
  · rw [if_neg (by omega)]
  rfl
theorem wid_short (m b0 b1 b2 b3 : Nat) (h1 : 194 ≤ b0) (h2 : b0 ≤ 244) (h : m < wn b0) : (decodeN m b0 b1 b2 b3).2 = 1 := by
  unfold decodeN
  unfold wn at h
  rw [if_neg (by omega)]
  split
  · split at h
    · exfalso; omega
    · exfalso; omega
  split
  · split at h
    · exfalso; omega
    · split at h <;> (exfalso; omega)
  split
  · split at h
    · exfalso; omega
    · split at h <;> (exfalso; omega)
  rfl
theorem wid_b1 (m b0 b1 b2 b3 : Nat) (h1 : 194 ≤ b0) (h2 : b0 ≤ 244) (hb : b1 < 256) (h : b1 < wlo b0 ∨ whi b0 < b1) : (decodeN m b0 b1 b2 b3).2 = 1 := by
  unfold decodeN
  unfold wlo whi at h
  rw [if_neg (by omega)]
  split
  · exfalso
    rw [if_neg (by omega), if_neg (by omega), if_neg (by omega), if_neg (by omega)] at h
    omega
  split
  · rw [if_neg]
    intro hh
    rw [if_neg (c := b0 = 244) (by omega), if_neg (c := b0 = 240) (by omega)] at h
    split at h <;> split at h <;> omega
  split
  · rw [if_neg]
    intro hh
    rw [if_neg (c := b0 = 237) (by omega), if_neg (c := b0 = 224) (by omega)] at h
    split at h <;> split at h <;> omega
  rfl
theorem wid_b2 (m b0 b1 b2 b3 : Nat) (h1 : 194 ≤ b0) (h2 : b0 ≤ 244) (hn : 3 ≤ wn b0) (hb : b2 < 256) (h : b2 < 128 ∨ 191 < b2) : (decodeN m b0 b1 b2 b3).2 = 1 := by
  unfold decodeN
  unfold wn at hn
  rw [if_neg (by omega)]
  split
  · rw [if_pos (by omega)] at hn; omega
  split
  · exfalso; omega
  split
  · exfalso; omega
  rfl
theorem wid_b3 (m b0 b1 b2 b3 : Nat) (h1 : 194 ≤ b0) (h2 : b0 ≤ 244) (hn : 4 ≤ wn b0) (hb : b3 < 256) (h : b3 < 128 ∨ 191 < b3) : (decodeN m b0 b1 b2 b3).2 = 1 := by
  unfold decodeN
  unfold wn at hn
  rw [if_neg (by omega)]
  split
  · rw [if_pos (by omega)] at hn; omega
  split
  · rw [if_neg (by omega), if_pos (by omega)] at hn; omega
  split
  · exfalso; omega
  rfl
theorem wid_all (m b0 b1 b2 b3 : Nat) (h1 : 194 ≤ b0) (h2 : b0 ≤ 244) (hm : wn b0 ≤ m) (hl : wlo b0 ≤ b1) (hh : b1 ≤ whi b0) (g2 : 3 ≤ wn b0 → 128 ≤ b2 ∧ b2 ≤ 191) (g3 : 4 ≤ wn b0 → 128 ≤ b3 ∧ b3 ≤ 191) : (decodeN m b0 b1 b2 b3).2 = wn b0 := by
  have hlo : 128 ≤ wlo b0 := by unfold wlo; split <;> (try split) <;> omega
  have hhi : whi b0 ≤ 191 := by unfold whi; split <;> (try split) <;> omega
  unfold decodeN
  rw [if_neg (by omega)]
  by_cases a : b0 < 224
  · have e : wn b0 = 2 := by unfold wn; rw [if_pos a]
    rw [e] at hm ⊢
    rw [if_pos (by omega), if_pos (by omega)]
  by_cases b : b0 < 240
  · have e : wn b0 = 3 := by unfold wn; rw [if_neg a, if_pos b]
    rw [e] at hm ⊢
    have := g2 (by omega)
    rw [if_neg (by omega), if_pos (by omega), if_pos]
    unfold wlo at hl
    unfold whi at hh
    rw [if_neg (c := b0 = 240) (by omega)] at hl
    rw [if_neg (c := b0 = 244) (by omega)] at hh
    split at hl <;> split at hh <;> omega
  · have e : wn b0 = 4 := by unfold wn; rw [if_neg a, if_neg b]
    rw [e] at hm ⊢
    have := g2 (by omega)
    have := g3 (by omega)
    rw [if_neg (by omega), if_neg (by omega), if_pos (by omega), if_pos]
    unfold wlo at hl
    unfold whi at hh
    rw [if_neg (c := b0 = 224) (by omega)] at hl
    rw [if_neg (c := b0 = 237) (by omega)] at hh
    split at hl <;> split at hh <;> omega
end Go.Fmt
