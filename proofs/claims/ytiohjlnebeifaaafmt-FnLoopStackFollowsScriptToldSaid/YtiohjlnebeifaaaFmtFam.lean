/- A family of owned rows over an index type: no two active rows share a block, and none lies in a block of S. Plain laws; no program. -/
import Derived.Test.YtiohjlnebeifaaaFmtNest
namespace Go.Nest
open Go.RowKit

structure Fam {ι : Type} (w : World) (S : Nat → Prop) (A : ι → Prop) (e : ι → Nat) (v : ι → Value) (xs : ι → List Value) : Prop where
  row : ∀ i, A i → w.ownsRow 0 (e i) 1 (v i) (xs i).length (xs i)
  sep : ∀ i j k, A i → A j → (v i).ownBlock = some k → (v j).ownBlock = some k → i = j
  out : ∀ i k, A i → (v i).ownBlock = some k → ¬ S k
variable {ι : Type} {w w' : World} {S S' : Nat → Prop} {A A' : ι → Prop} {e : ι → Nat} {v v2 : ι → Value} {xs xs2 : ι → List Value}
theorem Fam.drop (h : Fam w S A e v xs) (hA : ∀ i, A' i → A i) : Fam w S A' e v xs :=
  ⟨fun i hi => h.row i (hA i hi), fun i j k hi hj => h.sep i j k (hA i hi) (hA j hj), fun i k hi => h.out i k (hA i hi)⟩
theorem Fam.less (h : Fam w S A e v xs) (hS : ∀ k, S' k → S k) : Fam w S' A e v xs :=
  ⟨h.row, h.sep, fun i k hi hk hs => h.out i k hi hk (hS k hs)⟩
theorem Fam.congr (h : Fam w S A e v xs) (hv : ∀ i, A i → v2 i = v i) (hx : ∀ i, A i → xs2 i = xs i) : Fam w S A e v2 xs2 :=
  ⟨fun i hi => by rw [hv i hi, hx i hi]; exact h.row i hi, fun i j k hi hj => by rw [hv i hi, hv j hj]; exact h.sep i j k hi hj, fun i k hi => by rw [hv i hi]; exact h.out i k hi⟩
theorem Fam.turned {F : Nat → Prop} (h : Fam w S A e v xs) (ht : Turned F w w') (hF : ∀ k, F k → S k ∨ w.heap.size ≤ k) : Fam w' S A e v xs :=
  ⟨fun i hi => row_keep (h.row i hi) (fun k hk => ht.block k (row_lt (h.row i hi) hk) (fun hf => by
    rcases hF k hf with h1 | h1
    · exact h.out i k hi hk h1
    · have := row_lt (h.row i hi) hk; omega)), h.sep, h.out⟩
/-- A new block that none of the rows has may be taken into S. -/
theorem Fam.more (h : Fam w S A e v xs) (hS : ∀ k, S' k → S k ∨ w.heap.size ≤ k) : Fam w S' A e v xs :=
  ⟨h.row, h.sep, fun i k hi hk hs => by
    rcases hS k hs with h1 | h1
    · exact h.out i k hi hk h1
    · have := row_lt (h.row i hi) hk; omega⟩
/-- The row i anew, where only its own block and new ones have turned. -/
theorem Fam.grow (h : Fam w S A e v xs) (i : ι) (hi : A i) (ht : Turned (fun k => (v i).ownBlock = some k) w w') (hS : ∀ k, S k → k < w.heap.size)
    (hrow : w'.ownsRow 0 (e i) 1 (v2 i) (xs2 i).length (xs2 i)) (hat : ∀ k, (v2 i).ownBlock = some k → (v i).ownBlock = some k ∨ w.heap.size ≤ k)
    (hv : ∀ j, A j → j ≠ i → v2 j = v j) (hx : ∀ j, A j → j ≠ i → xs2 j = xs j) : Fam w' S A e v2 xs2 := by
  have hlt : ∀ j, A j → ∀ k, (v j).ownBlock = some k → k < w.heap.size := fun j hj k hk => row_lt (h.row j hj) hk
  have hself : ∀ k, (v2 i).ownBlock = some k → ∀ j, A j → j ≠ i → (v j).ownBlock ≠ some k := fun k hk j hj hne hk2 => by
    rcases hat k hk with h1 | h1
    · exact hne (h.sep j i k hj hi hk2 h1)
    · have := hlt j hj k hk2; omega
  refine ⟨fun j hj => ?_, fun j l k hj hl hk1 hk2 => ?_, fun j k hj hk hs => ?_⟩
  · by_cases hji : j = i
    · subst hji; exact hrow
    · rw [hv j hj hji, hx j hj hji]
      exact row_keep (h.row j hj) (fun k hk => ht.block k (hlt j hj k hk) (fun hf => hji (h.sep j i k hj hi hk hf)))
  · by_cases hji : j = i
    · by_cases hli : l = i
      · rw [hji, hli]
      · subst hji
        rw [hv l hl hli] at hk2
        exact absurd hk2 (hself k hk1 l hl hli)
    · by_cases hli : l = i
      · subst hli
        rw [hv j hj hji] at hk1
        exact absurd hk1 (hself k hk2 j hj hji)
      · rw [hv j hj hji] at hk1
        rw [hv l hl hli] at hk2
        exact h.sep j l k hj hl hk1 hk2
  · by_cases hji : j = i
    · subst hji
      rcases hat k hk with h1 | h1
      · exact h.out j k hj h1 hs
      · have := hS k hs; omega
    · rw [hv j hj hji] at hk
      exact h.out j k hj hk hs
/-- One more row, in a new block or in none. -/
theorem Fam.add (h : Fam w S A e v xs) (i : ι) (ht : Turned (fun _ => False) w w') (hS : ∀ k, S k → k < w.heap.size) (hA : ∀ j, A' j → A j ∨ j = i)
    (hrow : w'.ownsRow 0 (e i) 1 (v2 i) (xs2 i).length (xs2 i)) (hat : ∀ k, (v2 i).ownBlock = some k → w.heap.size ≤ k)
    (hv : ∀ j, A' j → j ≠ i → v2 j = v j) (hx : ∀ j, A' j → j ≠ i → xs2 j = xs j) : Fam w' S A' e v2 xs2 := by
  have hA2 : ∀ j, A' j → j ≠ i → A j := fun j hj hne => (hA j hj).resolve_right hne
  have hlt : ∀ j, A j → ∀ k, (v j).ownBlock = some k → k < w.heap.size := fun j hj k hk => row_lt (h.row j hj) hk
  refine ⟨fun j hj => ?_, fun j l k hj hl hk1 hk2 => ?_, fun j k hj hk hs => ?_⟩
  · by_cases hji : j = i
    · subst hji; exact hrow
    · rw [hv j hj hji, hx j hj hji]
      exact row_keep (h.row j (hA2 j hj hji)) (fun k hk => ht.block k (hlt j (hA2 j hj hji) k hk) (fun hf => hf))
  · by_cases hji : j = i
    · by_cases hli : l = i
      · rw [hji, hli]
      · subst hji
        rw [hv l hl hli] at hk2
        have h1 := hat k hk1
        have h2 := hlt l (hA2 l hl hli) k hk2
        omega
    · by_cases hli : l = i
      · subst hli
        rw [hv j hj hji] at hk1
        have h1 := hat k hk2
        have h2 := hlt j (hA2 j hj hji) k hk1
        omega
      · rw [hv j hj hji] at hk1
        rw [hv l hl hli] at hk2
        exact h.sep j l k (hA2 j hj hji) (hA2 l hl hli) hk1 hk2
  · by_cases hji : j = i
    · subst hji
      have h1 := hat k hk
      have h2 := hS k hs
      omega
    · rw [hv j hj hji] at hk
      exact h.out j k (hA2 j hj hji) hk hs
/-- A cell of the row i set. -/
theorem Fam.set (h : Fam w S A e v xs) (i : ι) (hi : A i) (g n cap : Nat) (hvi : v i = .slice (some ⟨g, 0, none⟩) n cap) (j : Nat) (u : Value) (hx : ∀ l, A l → l ≠ i → xs2 l = xs l) (hxi : xs2 i = (xs i).set j u) :
    Fam (w.setCell ⟨g, j, none⟩ u) S A e v xs2 ∧ Turned (fun k => (v i).ownBlock = some k) w (w.setCell ⟨g, j, none⟩ u) := by
  have ht : Turned (fun k => (v i).ownBlock = some k) w (w.setCell ⟨g, j, none⟩ u) := Turned.setCell _ _ _ _ (by rw [hvi]; rfl)
  have hr := h.row i hi
  have hn : n = (xs i).length := by
    rw [hvi] at hr
    obtain ⟨p, cap', e1, _⟩ := row_form hr
    simp only [Value.slice.injEq] at e1
    exact e1.2.1
  refine ⟨⟨fun l hl => ?_, h.sep, h.out⟩, ht⟩
  by_cases hli : l = i
  · subst hli
    rw [hxi, hvi, List.length_set]
    rw [hvi, ← hn] at hr
    rw [← hn]
    exact row_set hr j u
  · rw [hx l hl hli]
    exact row_keep (h.row l hl) (fun k hk => ht.block k (row_lt (h.row l hl) hk) (fun hf => hli (h.sep l i k hl hi hk hf)))
end Go.Nest
