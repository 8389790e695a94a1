/- unicode/utf8's RuneLen and EncodeRune, as they stand in this translation: the length and the bytes of a rune's encoding. -/
import Derived.Test.YtfpjkkjhdblmkaaDoorRows
import Derived.Test.YtfpjkkjhdblmkaaDoorBuf
import Derived.WalkKit
import Derived.ProofKit
import Derived.OwnWalk
import Derived.Lib.Hide
import Derived.WalkLawsBesides
import Derived.WalkSpells
import Derived.Deep.QuietTactic
import Derived.BigQuiet
namespace Go.Proofs.YtfpjkkjhdblmkaaDoor.Fm
open Go.ChangeShapes Go.WideShapes Go.ChangeAt Go.RowKit Go.Fmt

theorem runeLen (r : Int) (w : World) : Calls Tryd.prog 25 #[.int .i32 r] w fun e w' => e = .returned (.int .i64 (runeLenI r)) ∧ w' = w := by
  have fin : ∀ {x y : Int}, x = y → Ending.returned (.int .i64 x) = .returned (.int .i64 y) := fun h => by rw [h]
  rcases encI_cases r with h | h | h | h | h | h | h | h
  all_goals
    first | obtain ⟨h0, h1⟩ := h | have h0 := h
    go_enter Tryd.func25, Tryd.ntmps25
    go_wp2
    go_ret
    refine ⟨fin ?_, rfl⟩
    unfold runeLenI
    repeat' split
    all_goals first | rfl | omega

set_option maxHeartbeats 2000000 in
theorem encodeHigh (b off len cap : Nat) (r : Int) (w : World) (hr : -2147483648 ≤ r) (hr2 : r ≤ 2147483647) (h7 : ¬ (0 ≤ r ∧ r ≤ 127)) (hl : (encI r).length ≤ len)
    (hc : ∀ j, j < (encI r).length → (∃ v, w.cell? ⟨b, off + j, none⟩ = some v) ∧ w.frozen? ⟨b, off + j, none⟩ = false) :
    Calls Tryd.prog 31 #[.slice (some ⟨b, off, none⟩) len cap, .int .i32 r] w fun e w' => e = .returned (.int .i64 (encI r).length) ∧ w.setCells b off ((encI r).map (.int .u8)) = w' := by
  rcases encI_cases r with h | h | h | h | h | h | h | h
  · exact absurd h h7
  · obtain ⟨h0, h1⟩ := h
    rw [encI_two h0 h1] at hl hc ⊢
    obtain ⟨⟨v0, hc0⟩, hf0⟩ := hc 0 (by simp)
    obtain ⟨⟨v1, hc1⟩, hf1⟩ := hc 1 (by simp)
    simp only [List.length_cons, List.length_nil, Nat.zero_add, Nat.add_zero, Nat.reduceAdd] at hl hc0 hc1 hf0 hf1 ⊢
    clear hc h7
    go_enter Tryd.func31, Tryd.ntmps31
    go_wp2
    go_ret
    exact ⟨rfl, rfl⟩
  · obtain ⟨h0, h1⟩ := h
    rw [encI_three (.inl ⟨h0, h1⟩)] at hl hc ⊢
    obtain ⟨⟨v0, hc0⟩, hf0⟩ := hc 0 (by simp)
    obtain ⟨⟨v1, hc1⟩, hf1⟩ := hc 1 (by simp)
    obtain ⟨⟨v2, hc2⟩, hf2⟩ := hc 2 (by simp)
    simp only [List.length_cons, List.length_nil, Nat.zero_add, Nat.add_zero, Nat.reduceAdd] at hl hc0 hc1 hf0 hf1 hc2 hf2 ⊢
    clear hc h7
    go_enter Tryd.func31, Tryd.ntmps31
    go_wp2
    go_ret
    exact ⟨rfl, rfl⟩
  · obtain ⟨h0, h1⟩ := h
    rw [encI_three (.inr ⟨h0, h1⟩)] at hl hc ⊢
    obtain ⟨⟨v0, hc0⟩, hf0⟩ := hc 0 (by simp)
    obtain ⟨⟨v1, hc1⟩, hf1⟩ := hc 1 (by simp)
    obtain ⟨⟨v2, hc2⟩, hf2⟩ := hc 2 (by simp)
    simp only [List.length_cons, List.length_nil, Nat.zero_add, Nat.add_zero, Nat.reduceAdd] at hl hc0 hc1 hf0 hf1 hc2 hf2 ⊢
    clear hc h7
    go_enter Tryd.func31, Tryd.ntmps31
    go_wp2
    go_ret
    exact ⟨rfl, rfl⟩
  · obtain ⟨h0, h1⟩ := h
    rw [encI_four h0 h1] at hl hc ⊢
    obtain ⟨⟨v0, hc0⟩, hf0⟩ := hc 0 (by simp)
    obtain ⟨⟨v1, hc1⟩, hf1⟩ := hc 1 (by simp)
    obtain ⟨⟨v2, hc2⟩, hf2⟩ := hc 2 (by simp)
    obtain ⟨⟨v3, hc3⟩, hf3⟩ := hc 3 (by simp)
    simp only [List.length_cons, List.length_nil, Nat.zero_add, Nat.add_zero, Nat.reduceAdd] at hl hc0 hc1 hf0 hf1 hc2 hf2 hc3 hf3 ⊢
    clear hc h7
    go_enter Tryd.func31, Tryd.ntmps31
    go_wp2
    go_ret
    exact ⟨rfl, rfl⟩
  · have h0 := h
    rw [encI_bad (by omega)] at hl hc ⊢
    obtain ⟨⟨v0, hc0⟩, hf0⟩ := hc 0 (by simp)
    obtain ⟨⟨v1, hc1⟩, hf1⟩ := hc 1 (by simp)
    obtain ⟨⟨v2, hc2⟩, hf2⟩ := hc 2 (by simp)
    simp only [List.length_cons, List.length_nil, Nat.zero_add, Nat.add_zero, Nat.reduceAdd] at hl hc0 hc1 hf0 hf1 hc2 hf2 ⊢
    clear hc h7
    go_enter Tryd.func31, Tryd.ntmps31
    go_wp2
    go_ret
    exact ⟨rfl, rfl⟩
  · obtain ⟨h0, h1⟩ := h
    rw [encI_bad (by omega)] at hl hc ⊢
    obtain ⟨⟨v0, hc0⟩, hf0⟩ := hc 0 (by simp)
    obtain ⟨⟨v1, hc1⟩, hf1⟩ := hc 1 (by simp)
    obtain ⟨⟨v2, hc2⟩, hf2⟩ := hc 2 (by simp)
    simp only [List.length_cons, List.length_nil, Nat.zero_add, Nat.add_zero, Nat.reduceAdd] at hl hc0 hc1 hf0 hf1 hc2 hf2 ⊢
    clear hc h7
    go_enter Tryd.func31, Tryd.ntmps31
    go_wp2
    go_ret
    exact ⟨rfl, rfl⟩
  · have h0 := h
    rw [encI_bad (by omega)] at hl hc ⊢
    obtain ⟨⟨v0, hc0⟩, hf0⟩ := hc 0 (by simp)
    obtain ⟨⟨v1, hc1⟩, hf1⟩ := hc 1 (by simp)
    obtain ⟨⟨v2, hc2⟩, hf2⟩ := hc 2 (by simp)
    simp only [List.length_cons, List.length_nil, Nat.zero_add, Nat.add_zero, Nat.reduceAdd] at hl hc0 hc1 hf0 hf1 hc2 hf2 ⊢
    clear hc h7
    go_enter Tryd.func31, Tryd.ntmps31
    go_wp2
    go_ret
    exact ⟨rfl, rfl⟩

set_option maxHeartbeats 1000000 in
theorem encodeRune (b off len cap : Nat) (r : Int) (w : World) (hr : -2147483648 ≤ r) (hr2 : r ≤ 2147483647) (hl : (encI r).length ≤ len)
    (hc : ∀ j, j < (encI r).length → (∃ v, w.cell? ⟨b, off + j, none⟩ = some v) ∧ w.frozen? ⟨b, off + j, none⟩ = false) :
    Calls Tryd.prog 26 #[.slice (some ⟨b, off, none⟩) len cap, .int .i32 r] w fun e w' => e = .returned (.int .i64 (encI r).length) ∧ w.setCells b off ((encI r).map (.int .u8)) = w' := by
  by_cases h7 : 0 ≤ r ∧ r ≤ 127
  · obtain ⟨h0, h1⟩ := h7
    rw [encI_one h0 h1] at hl hc ⊢
    obtain ⟨⟨v0, hc0⟩, hf0⟩ := hc 0 (by simp)
    simp only [List.length_cons, List.length_nil, Nat.zero_add, Nat.add_zero] at hl hc0 hf0 ⊢
    clear hc
    go_enter Tryd.func26, Tryd.ntmps26
    go_wp2
    go_ret
    exact ⟨rfl, rfl⟩
  · have hh := Lib.hid (encodeHigh b off len cap r w hr hr2 h7 hl hc)
    clear hc
    by_cases hn : r < 0
    · clear h7
      go_enter Tryd.func26, Tryd.ntmps26
      go_wp2_with (fail)
      refine hh.out.mono ?_
      rintro e w' ⟨rfl, rfl⟩
      go_wp2
      go_ret
      exact ⟨rfl, rfl⟩
    · have h8 : 128 ≤ r := by omega
      clear h7
      go_enter Tryd.func26, Tryd.ntmps26
      go_wp2_with (fail)
      refine hh.out.mono ?_
      rintro e w' ⟨rfl, rfl⟩
      go_wp2
      go_ret
      exact ⟨rfl, rfl⟩
end Go.Proofs.YtfpjkkjhdblmkaaDoor.Fm
