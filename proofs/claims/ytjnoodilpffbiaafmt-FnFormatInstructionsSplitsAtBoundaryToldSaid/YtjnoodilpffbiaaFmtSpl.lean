/- The law FnFormatInstructionsSplitsAtBoundary: its walk. -/
import Derived.Test.YtjnoodilpffbiaaFmtOneL
import Derived.Test.YtjnoodilpffbiaaFmtApp
namespace Go.Proofs.YtjnoodilpffbiaaFmt.Ft
open Go.ChangeShapes Go.WideShapes Go.ChangeAt Go.RowKit Go.Blk Go.Mk Go.LawFrame Go.Extern.Stop Go.Stop Go.Proofs.YtjnoodilpffbiaaFmt.Mk Go.Fmt Go.Proofs.YtjnoodilpffbiaaFmt.Fm

set_option maxHeartbeats 2000000 in
theorem guardSpl (p p2 q : Option Addr) (l c l2 c2 m d : Nat) (z : Int) (b : Bool) (w : World) (hsz : l ≤ 140737488351232) (hsz1 : l2 ≤ 140737488351232) (hsz2 : m ≤ 140737488351232) (hb : decide (l + l2 + m ≤ 1048576) = b) :
    Calls Tryf.prog 11 #[.slice p l c, .slice p2 l2 c2, .slice q m d, .int .i64 z] w fun e w' => e = .returned (.bool b) ∧ w = w' := by
  subst hb
  by_cases h : l ≤ 1048576
  · by_cases h2 : l2 ≤ 1048576
    · by_cases h3 : l + l2 ≤ 1048576
      · have h3' : (l : Int) + (l2 : Int) ≤ 1048576 := by omega
        by_cases h4 : m ≤ 1048576
        · by_cases h5 : l + l2 + m ≤ 1048576
          · have h5' : (l : Int) + (l2 : Int) + (m : Int) ≤ 1048576 := by omega
            go_enter Tryf.func11, Tryf.ntmps11
            go_wp2
            go_ret
            exact ⟨by simp [h5], rfl⟩
          · have h5' : (1048576 : Int) < (l : Int) + (l2 : Int) + (m : Int) := by omega
            go_enter Tryf.func11, Tryf.ntmps11
            go_wp2
            go_ret
            exact ⟨by simp [h5], rfl⟩
        · have h5 : ¬ l + l2 + m ≤ 1048576 := by omega
          go_enter Tryf.func11, Tryf.ntmps11
          go_wp2
          go_ret
          exact ⟨by simp [h5], rfl⟩
      · have h3' : (1048576 : Int) < (l : Int) + (l2 : Int) := by omega
        have h5 : ¬ l + l2 + m ≤ 1048576 := by omega
        go_enter Tryf.func11, Tryf.ntmps11
        go_wp2
        go_ret
        exact ⟨by simp [h5], rfl⟩
    · have h5 : ¬ l + l2 + m ≤ 1048576 := by omega
      go_enter Tryf.func11, Tryf.ntmps11
      go_wp2
      go_ret
      exact ⟨by simp [h5], rfl⟩
  · have h5 : ¬ l + l2 + m ≤ 1048576 := by omega
    go_enter Tryf.func11, Tryf.ntmps11
    go_wp2
    go_ret
    exact ⟨by simp [h5], rfl⟩
theorem lines_str (F : Interp) (nm : Nat → ByteArray) (p : Int) : ∀ (l : List (List Int)) (off : Nat), ∀ u ∈ lines F nm p off l, ∃ s, u = .string s
  | [], _, u, h => by simp [lines] at h
  | i :: r, off, u, h => by
    simp only [lines, List.mem_cons] at h
    rcases h with rfl | h
    · exact ⟨_, rfl⟩
    · exact lines_str F nm p r _ u h
theorem src_of {w : World} {B : Nat} {q : Option Addr} {n c : Nat} {xs : List Value} (h : w.ownsRow B 5 1 (.slice q n c) n xs) (hn : n = xs.length) : SrcB w q c xs := by
  subst hn
  by_cases h0 : xs.length = 0
  · obtain rfl : xs = [] := List.length_eq_zero_iff.1 h0
    obtain ⟨_, ⟨e, _⟩ | ⟨g, cap, cur, e, _⟩⟩ := h
    · simp only [Value.slice.injEq] at e; exact .inl ⟨e.1, e.2.2, rfl⟩
    · simp only [Value.slice.injEq] at e; exact .inr ⟨_, e.1, fun j u hj => by simp at hj⟩
  · obtain ⟨g, cap, e, _, _, hc⟩ := own_some h (by omega)
    simp only [Value.slice.injEq] at e
    refine .inr ⟨⟨g, 0, none⟩, e.1, fun j u hj => ?_⟩
    have := hc j u hj
    by_cases hj0 : j = 0
    · subst hj0; simpa [Addr.add] using this
    · simpa [Addr.add, hj0] using this
/-- Two lists of lines that agree: cell by cell. -/
theorem two_of {w : World} {B1 B2 n c m d : Nat} {q1 q2 : Option Addr} {X Y L : List Value} (r1 : w.ownsRow B1 9 1 (.slice q1 n c) n (X ++ L ++ Y)) (r2 : w.ownsRow B2 9 1 (.slice q2 m d) m L) (hs : ∀ u ∈ L, ∃ s, u = Value.string s) (hn : n = X.length + L.length + Y.length) (hm : m = L.length) (j : Nat) (hj : j < L.length) :
    ∃ g1 g2 s, q1 = some ⟨g1, 0, none⟩ ∧ q2 = some ⟨g2, 0, none⟩ ∧ w.cell? ⟨g1, X.length + j, none⟩ = some (.string s) ∧ w.cell? ⟨g2, j, none⟩ = some (.string s) := by
  obtain ⟨g1, c1, e1, _, _, h1⟩ := own_some r1 (by omega)
  obtain ⟨g2, c2, e2, _, _, h2⟩ := own_some r2 (by omega)
  simp only [Value.slice.injEq] at e1 e2
  obtain ⟨s, hsj⟩ := hs L[j] (List.getElem_mem hj)
  refine ⟨g1, g2, s, e1.1, e2.1, h1 _ _ ?_, h2 _ _ ?_⟩
  · rw [List.append_assoc, List.getElem?_append_right (by omega), show X.length + j - X.length = j by omega, List.getElem?_append_left hj, List.getElem?_eq_getElem hj, hsj]
  · rw [List.getElem?_eq_getElem hj, hsj]
end Go.Proofs.YtjnoodilpffbiaaFmt.Ft
