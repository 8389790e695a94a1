/- Numbers in a base as lists of digits: plain facts; no program. -/
import Derived.Test.YtfpjkkjhdblmkaaDoorBuf
namespace Go.Num

/-- u in base b, the most significant digit first. -/
def dig (b u : Nat) : List Nat :=
  if 2 ≤ b ∧ b ≤ u then dig b (u / b) ++ [u % b] else [u]
termination_by u
decreasing_by exact Nat.div_lt_self (by omega) (by omega)
theorem dig_small {b u : Nat} (h : u < b) : dig b u = [u] := by rw [dig, if_neg (by omega)]
theorem dig_big {b u : Nat} (hb : 2 ≤ b) (h : b ≤ u) : dig b u = dig b (u / b) ++ [u % b] := by rw [dig, if_pos ⟨hb, h⟩]
theorem dig_ne (b u : Nat) : 0 < (dig b u).length := by rw [dig]; split <;> simp
theorem dig_length {b : Nat} (hb : 2 ≤ b) : ∀ (k u : Nat), u < 2 ^ (k + 1) → (dig b u).length ≤ k + 1
  | 0, u, h => by rw [dig_small (by simp at h; omega)]; simp
  | k + 1, u, h => by
    by_cases hu : u < b
    · rw [dig_small hu]; simp
    · rw [dig_big hb (by omega), List.length_append]
      have h1 : u / b ≤ u / 2 := Nat.div_le_div_left hb (by omega)
      have := dig_length hb k (u / b) (by rw [Nat.pow_succ] at h; omega)
      simp; omega
theorem dig_lt {b : Nat} (hb : 2 ≤ b) : ∀ (u : Nat), ∀ d ∈ dig b u, d < b := by
  intro u
  induction u using Nat.strongRecOn with
  | _ u ih =>
    intro d hd
    by_cases hu : u < b
    · rw [dig_small hu] at hd
      simp at hd; omega
    · rw [dig_big hb (by omega)] at hd
      rcases List.mem_append.1 hd with h | h
      · exact ih (u / b) (Nat.div_lt_self (by omega) (by omega)) d h
      · simp at h
        have := Nat.mod_lt u (show 0 < b by omega)
        omega
/-- The first digit is 0 for the value 0 alone. -/
theorem dig_head {b : Nat} (hb : 2 ≤ b) : ∀ (u : Nat), u ≠ 0 → (dig b u).head? ≠ some 0 := by
  intro u
  induction u using Nat.strongRecOn with
  | _ u ih =>
    intro h0
    by_cases hu : u < b
    · rw [dig_small hu]; simpa using h0
    · rw [dig_big hb (by omega)]
      have h1 := dig_ne b (u / b)
      have h2 := ih (u / b) (Nat.div_lt_self (by omega) (by omega)) (by have := Nat.div_pos (show b ≤ u by omega) (show 0 < b by omega); omega)
      rw [List.head?_append]
      cases hd : dig b (u / b) with
      | nil => rw [hd] at h1; simp at h1
      | cons a r => rw [hd] at h2; simpa using h2
/-- The value of digits. -/
def val (b : Nat) (l : List Nat) : Nat := l.foldl (fun a d => a * b + d) 0
theorem val_snoc (b : Nat) (l : List Nat) (d : Nat) : val b (l ++ [d]) = val b l * b + d := by simp [val, List.foldl_append]
theorem val_le {b : Nat} (hb : 1 ≤ b) : ∀ (m l : List Nat), val b l ≤ val b (l ++ m)
  | [], l => by simp
  | d :: m, l => by
    have h1 := val_le hb m (l ++ [d])
    rw [List.append_assoc, List.singleton_append, val_snoc] at h1
    have : val b l * 1 ≤ val b l * b := Nat.mul_le_mul_left _ hb
    omega
theorem val_dig {b : Nat} (hb : 2 ≤ b) : ∀ (u : Nat), val b (dig b u) = u := by
  intro u
  induction u using Nat.strongRecOn with
  | _ u ih =>
    by_cases hu : u < b
    · rw [dig_small hu]; simp [val]
    · rw [dig_big hb (by omega), val_snoc, ih _ (Nat.div_lt_self (by omega) (by omega)), Nat.mul_comm]
      exact Nat.div_add_mod u b
theorem val_zero (b : Nat) (l : List Nat) : val b (0 :: l) = val b l := by simp [val]

/-- The k + 1 last digits of u. -/
def top (b : Nat) : Nat → Nat → List Nat
  | 0, u => [u]
  | k + 1, u => (u / b ^ (k + 1)) :: top b k (u % b ^ (k + 1))
theorem top_snoc {b : Nat} (hb : 2 ≤ b) : ∀ (k u : Nat), top b (k + 1) u = top b k (u / b) ++ [u % b]
  | 0, u => by simp [top]
  | k + 1, u => by
    have h1 := top_snoc hb k (u % b ^ (k + 1 + 1))
    rw [top, h1, top]
    simp only [List.cons_append]
    have e1 : u / b / b ^ (k + 1) = u / b ^ (k + 1 + 1) := by rw [Nat.div_div_eq_div_mul, Nat.pow_succ b (k + 1), Nat.mul_comm]
    have e2 : u % b ^ (k + 1 + 1) / b = u / b % b ^ (k + 1) := by rw [Nat.pow_succ, Nat.mul_comm, Nat.mod_mul_right_div_self]
    have e3 : u % b ^ (k + 1 + 1) % b = u % b := Nat.mod_mod_of_dvd _ ⟨b ^ (k + 1), by rw [Nat.pow_succ, Nat.mul_comm]⟩
    rw [e1, e2, e3]
theorem dig_top {b : Nat} (hb : 2 ≤ b) : ∀ (k u : Nat), (b ^ k ≤ u ∨ k = 0) → u < b ^ (k + 1) → dig b u = top b k u
  | 0, u, _, h => by rw [dig_small (by simpa using h)]; rfl
  | k + 1, u, h0, h => by
    have h1 : b ^ (k + 1) ≤ u := by omega
    have h2 : b ≤ u := by
      have : b ^ 1 ≤ b ^ (k + 1) := Nat.pow_le_pow_right (by omega) (by omega)
      rw [Nat.pow_one] at this; omega
    rw [dig_big hb h2, top_snoc hb, dig_top hb k (u / b) ?_ ?_]
    · left
      rw [Nat.le_div_iff_mul_le (by omega), ← Nat.pow_succ]; exact h1
    · rw [Nat.div_lt_iff_lt_mul (by omega), ← Nat.pow_succ]; exact h
theorem top_length (b : Nat) : ∀ (k u : Nat), (top b k u).length = k + 1
  | 0, _ => rfl
  | k + 1, u => by simp [top, top_length b k]

/-- Digits as bytes. -/
def txt (ds : List UInt8) (l : List Nat) : List UInt8 := l.map fun d => ds.getD d 0
theorem txt_append (ds : List UInt8) (a b : List Nat) : txt ds (a ++ b) = txt ds a ++ txt ds b := by simp [txt]
theorem txt_length (ds : List UInt8) (a : List Nat) : (txt ds a).length = a.length := by simp [txt]
/-- u in base b as bytes. -/
def repr (b : Nat) (ds : List UInt8) (u : Nat) : List UInt8 := txt ds (dig b u)
theorem repr_small {b u : Nat} {ds : List UInt8} (h : u < b) : repr b ds u = [ds.getD u 0] := by unfold repr; rw [dig_small h]; rfl
theorem repr_big {b u : Nat} {ds : List UInt8} (hb : 2 ≤ b) (h : b ≤ u) : repr b ds u = repr b ds (u / b) ++ [ds.getD (u % b) 0] := by unfold repr; rw [dig_big hb h, txt_append]; rfl
theorem repr_len {b u : Nat} {ds : List UInt8} (hb : 2 ≤ b) (h : u < 2 ^ 64) : 1 ≤ (repr b ds u).length ∧ (repr b ds u).length ≤ 64 := by
  unfold repr; rw [txt_length]
  exact ⟨dig_ne b u, dig_length hb 63 u h⟩
/-- A step of the loop that writes digits from the right. -/
theorem repr_step {b u v : Nat} {ds t : List UInt8} (hb : 2 ≤ b) (h : b ≤ v) (ht : repr b ds u = repr b ds v ++ t) : repr b ds u = repr b ds (v / b) ++ (ds.getD (v % b) 0 :: t) := by
  rw [ht, repr_big hb h, List.append_assoc]; rfl
theorem repr_done {b u v : Nat} {ds t : List UInt8} (h : v < b) (ht : repr b ds u = repr b ds v ++ t) : repr b ds u = ds.getD v 0 :: t := by
  rw [ht, repr_small h]; rfl

/-- The two tables of digits. -/
def lower : List UInt8 := [48, 49, 50, 51, 52, 53, 54, 55, 56, 57, 97, 98, 99, 100, 101, 102, 120]
def upper : List UInt8 := [48, 49, 50, 51, 52, 53, 54, 55, 56, 57, 65, 66, 67, 68, 69, 70, 88]
def digs (up : Bool) : List UInt8 := if up then upper else lower
theorem digs_length (up : Bool) : (digs up).length = 17 := by cases up <;> rfl
theorem digs_dec (up : Bool) : ∀ d, d < 10 → ((digs up).getD d 0).toNat = 48 + d := by cases up <;> decide
theorem digs_ascii (up : Bool) : ∀ d, ((digs up).getD d 0).toNat < 128 := by
  intro d
  by_cases h : d < 17
  · revert d; cases up <;> decide
  · rw [List.getD_eq_getElem?_getD, List.getElem?_eq_none (by rw [digs_length]; omega)]; decide
theorem digs_zero (up : Bool) : ∀ d, d < 16 → ((digs up).getD d 0 = 48 ↔ d = 0) := by cases up <;> decide
theorem digs_inj (up : Bool) : ∀ d, d < 16 → ∀ e, e < 16 → (digs up).getD d 0 = (digs up).getD e 0 → d = e := by cases up <;> decide

/-- A number as fmtInteger writes it: p places filled with 0, the prefix, the sign. -/
def fillB (p : Nat) (r : List UInt8) : List UInt8 := List.replicate (p - r.length) 48 ++ r
def sharpB (b : Nat) (ds r : List UInt8) : List UInt8 :=
  if b = 2 then 48 :: 98 :: r else if b = 8 then (if r.head? = some 48 then r else 48 :: r) else if b = 16 then 48 :: ds.getD 16 0 :: r else r
def preB (sharp : Bool) (b : Nat) (ds r : List UInt8) : List UInt8 := if sharp then sharpB b ds r else r
def verbB (o : Bool) (r : List UInt8) : List UInt8 := if o then 48 :: 111 :: r else r
def signB (neg plus space : Bool) (r : List UInt8) : List UInt8 := if neg then 45 :: r else if plus then 43 :: r else if space then 32 :: r else r
def numB (neg plus space sharp o : Bool) (b : Nat) (ds : List UInt8) (p u : Nat) : List UInt8 := signB neg plus space (verbB o (preB sharp b ds (fillB p (repr b ds u))))
theorem fillB_length (p : Nat) (r : List UInt8) : (fillB p r).length = max p r.length := by simp [fillB]; omega
theorem sharpB_length (b : Nat) (ds r : List UInt8) : (sharpB b ds r).length ≤ r.length + 2 := by
  unfold sharpB; repeat' split
  all_goals simp
theorem preB_length (sharp : Bool) (b : Nat) (ds r : List UInt8) : (preB sharp b ds r).length ≤ r.length + 2 := by
  unfold preB; split
  · exact sharpB_length _ _ _
  · omega
end Go.Num
