/- The laws' own comparison of two rows of integers, at two equal rows. -/
import Derived.Test.YtiohjlnebeifaaaFmtFam
import Derived.Test.YtiohjlnebeifaaaFmtRows
import Derived.Test.YtiohjlnebeifaaaFmtFrame
import Derived.Lib.Hide
import Derived.LoopTactic
import Derived.Deep.LoopGhost
import Derived.WalkLawsBesides
import Derived.WalkSpells
import Derived.Deep.QuietTactic
import Derived.BigQuiet
namespace Go.Proofs.YtiohjlnebeifaaaFmt.Lp
open Go.ChangeShapes Go.WideShapes Go.ChangeAt Go.RowKit Go.Nest

def ints (l : List Int) : List Value := l.map (Value.int .i64)
theorem ints_length (l : List Int) : (ints l).length = l.length := by simp [ints]
theorem ints_append (a b : List Int) : ints (a ++ b) = ints a ++ ints b := by simp [ints]
theorem row_p {w : World} {e n cap : Nat} {p : Option Addr} {xs : List Value} (h : w.ownsRow 0 e 1 (.slice p n cap) n xs) : xs = [] ∨ ∃ g, p = some ⟨g, 0, none⟩ := by
  obtain ⟨h0, ⟨h1, _⟩ | ⟨g, cap', cur, h1, _⟩⟩ := h
  · cases h1
    exact .inl (List.length_eq_zero_iff.1 (by simpa using h0))
  · cases h1
    exact .inr ⟨g, rfl⟩
set_option maxRecDepth 100000 in
set_option maxHeartbeats 1000000 in
theorem sameInts (vp vq : Value) (l : List Int) (w : World) (ha : w.ownsRow 0 3 1 vp l.length (ints l)) (hb : w.ownsRow 0 3 1 vq l.length (ints l)) (hl : l.length ≤ 1000000) :
    Calls Tryf.prog 15 #[vp, vq] w fun e w' => e = .returned (.bool true) ∧ ∃ n, w' = w.drewN n := by
  obtain ⟨p, ca, rfl, _, _⟩ := row_form ha
  obtain ⟨q, cb, rfl, _, _⟩ := row_form hb
  have HA := Lib.hid ha
  have HB := Lib.hid hb
  clear ha hb
  go_enter Tryf.func15, Tryf.ntmps15
  go_wp2
  go_loopw [5] (fun i wr => ∃ k : Nat, k ≤ l.length ∧ i = .int .i64 k ∧ ∃ n, wr = w.drewN n) (fun i _ => l.length - (intOf i).toNat)
  case atStart => exact ⟨0, Nat.zero_le _, rfl, 0, rfl⟩
  case round =>
    obtain ⟨k, hk, rfl, n, rfl⟩ := hrel
    by_cases hlt : k < l.length
    · have ha := HA.out
      have hb := HB.out
      have hne : ints l ≠ [] := by intro e; have := ints_length l; rw [e] at this; simp at this; omega
      obtain ⟨g, rfl⟩ := (row_p ha).resolve_left hne
      obtain ⟨g2, rfl⟩ := (row_p hb).resolve_left hne
      have hx1 := (row_cell ha (j := k) (u := .int .i64 l[k]) (by simp [ints, List.getElem?_eq_getElem hlt])).1
      have hy1 := (row_cell hb (j := k) (u := .int .i64 l[k]) (by simp [ints, List.getElem?_eq_getElem hlt])).1
      have hi0 : (0 : Int) ≤ (k : Int) := by omega
      have hi1 : (k : Int) < (l.length : Int) := by omega
      generalize l[k] = z at *
      clear ha hb HA HB hne
      go_wp2
      go_quiet (fail)
      go_wp2
      go_roundw
      case rel => exact ⟨k + 1, hlt, by go_num, _, rfl⟩
      case measure => simp [intOf]; omega
    · obtain rfl : k = l.length := by omega
      go_wp2
      go_ret
      exact ⟨rfl, _, rfl⟩
end Go.Proofs.YtiohjlnebeifaaaFmt.Lp
