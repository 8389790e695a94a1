/- The bytes of an instruction: plain facts on lists of numbers. No program. -/
import Derived.WalkKit
namespace Go.Mk

/-- The bytes of an operand of w bytes, the greatest first. -/
def field : Nat → Int → List Int
  | 0, _ => []
  | w + 1, x => field w (x / 256) ++ [x % 256]
theorem field_length : ∀ (w : Nat) (x : Int), (field w x).length = w
  | 0, _ => rfl
  | w + 1, x => by simp [field, field_length w]
theorem field_byte : ∀ (w : Nat) (x : Int), ∀ b ∈ field w x, 0 ≤ b ∧ b < 256
  | 0, _, b, h => by simp [field] at h
  | w + 1, x, b, h => by
    simp only [field, List.mem_append, List.mem_singleton] at h
    rcases h with h | h
    · exact field_byte w _ b h
    · omega
theorem field1 (x : Int) : field 1 x = [x % 256] := rfl
theorem field2 (x : Int) : field 2 x = [x / 256 % 256, x % 256] := rfl
theorem field4 (x : Int) : field 4 x = [x / 16777216 % 256, x / 65536 % 256, x / 256 % 256, x % 256] := by
  have e1 : x / 256 / 256 / 256 = x / 16777216 := by omega
  have e2 : x / 256 / 256 = x / 65536 := by omega
  have e : field 4 x = [x / 256 / 256 / 256 % 256, x / 256 / 256 % 256, x / 256 % 256, x % 256] := rfl
  rw [e, e1, e2]

/-- What the bytes say, read the greatest first. -/
def rd : Int → List Int → Int
  | a, [] => a
  | a, b :: l => rd (a * 256 + b) l
theorem rd_append : ∀ (l m : List Int) (a : Int), rd a (l ++ m) = rd (rd a l) m
  | [], _, _ => rfl
  | b :: l, m, a => by simp [rd, rd_append l m]

/-- The bytes behind the opcode: each operand's field, then zeros where no operand is given. -/
def body : List Int → List Int → List Int
  | [], _ => []
  | z :: zs, [] => List.replicate z.toNat 0 ++ body zs []
  | z :: zs, x :: xs => field z.toNat x ++ body zs xs
def tot : List Int → Int
  | [] => 0
  | z :: zs => z + tot zs
theorem tot_append : ∀ (a b : List Int), tot (a ++ b) = tot a + tot b
  | [], _ => by simp [tot]
  | x :: a, b => by simp [tot, tot_append a b]; omega
theorem tot_nonneg : ∀ (a : List Int), (∀ z ∈ a, 0 ≤ z) → 0 ≤ tot a
  | [], _ => by simp [tot]
  | x :: a, h => by
    have := tot_nonneg a (fun z hz => h z (by simp [hz]))
    have := h x (by simp)
    simp [tot]; omega
theorem body_length : ∀ (zs xs : List Int), (∀ z ∈ zs, 0 ≤ z) → ((body zs xs).length : Int) = tot zs
  | [], _, _ => rfl
  | z :: zs, [], h => by
    have := body_length zs [] (fun z hz => h z (by simp [hz]))
    have := h z (by simp)
    simp [body, tot]; omega
  | z :: zs, x :: xs, h => by
    have := body_length zs xs (fun z hz => h z (by simp [hz]))
    have := h z (by simp)
    simp [body, tot, field_length]; omega
theorem body_byte : ∀ (zs xs : List Int), ∀ b ∈ body zs xs, 0 ≤ b ∧ b < 256
  | [], _, b, h => by simp [body] at h
  | z :: zs, [], b, h => by
    simp only [body, List.mem_append, List.mem_replicate] at h
    rcases h with h | h
    · omega
    · exact body_byte zs [] b h
  | z :: zs, x :: xs, b, h => by
    simp only [body, List.mem_append] at h
    rcases h with h | h
    · exact field_byte _ _ b h
    · exact body_byte zs xs b h
/-- The bytes as they stand behind i operands, parted at operand i. -/
theorem body_part : ∀ (zs xs : List Int) (i : Nat) (h1 : i < zs.length) (h2 : i < xs.length), (∀ z ∈ zs, 0 ≤ z) →
    ∃ A C, body zs (xs.take i) = A ++ (List.replicate (zs[i]).toNat 0 ++ C) ∧ body zs (xs.take (i + 1)) = A ++ (field (zs[i]).toNat xs[i] ++ C) ∧ (A.length : Int) = tot (zs.take i)
  | [], _, _, h1, _, _ => by simp at h1
  | _ :: _, [], _, _, h2, _ => by simp at h2
  | z :: zs, x :: xs, 0, _, _, _ => ⟨[], body zs [], by simp [body], by simp [body], by simp [tot]⟩
  | z :: zs, x :: xs, i + 1, h1, h2, hn => by
    obtain ⟨A, C, e1, e2, e3⟩ := body_part zs xs i (by simpa using h1) (by simpa using h2) (fun z hz => hn z (by simp [hz]))
    have hz := hn z (by simp)
    refine ⟨field z.toNat x ++ A, C, ?_, ?_, ?_⟩
    · simp [body, e1]
    · simp [body, e2]
    · simp [field_length, tot, ← e3]; omega
end Go.Mk
