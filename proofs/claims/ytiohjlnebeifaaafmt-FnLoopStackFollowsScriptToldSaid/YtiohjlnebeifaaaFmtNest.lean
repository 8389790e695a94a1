/- A row whose elements begin with a slice, each slice with a row of its own, all rows apart: push, pop, and a change of the last. Plain laws; no program. -/
import Derived.WalkKit
import Derived.Below
import Derived.Laws.AppendOwn
import Derived.Deep.AppendLies
import Derived.Test.YtiohjlnebeifaaaFmtBuf
namespace Go.Nest
open Go.RowKit

/-- Only blocks of F and new ones have turned. -/
structure Turned (F : Nat → Prop) (w w' : World) : Prop where
  os : w'.os = w.os
  tape : w'.tape = w.tape
  output : w'.output = w.output
  size : w.heap.size ≤ w'.heap.size
  block : ∀ k, k < w.heap.size → ¬ F k → w'.heap[k]? = w.heap[k]?

theorem Turned.refl (F : Nat → Prop) (w : World) : Turned F w w := ⟨rfl, rfl, rfl, Nat.le_refl _, fun _ _ _ => rfl⟩
theorem Turned.drewN {F : Nat → Prop} {w w' : World} (h : Turned F w w') (n : Nat) : Turned F w (w'.drewN n) := ⟨h.os, h.tape, h.output, h.size, h.block⟩
theorem Turned.mono {F F' : Nat → Prop} {w w' : World} (h : Turned F w w') (hF : ∀ k, k < w.heap.size → F k → F' k) : Turned F' w w' := ⟨h.os, h.tape, h.output, h.size, fun k hk hn => h.block k hk (fun hf => hn (hF k hk hf))⟩
theorem Turned.trans {F F' : Nat → Prop} {x y z : World} (h : Turned F x y) (k : Turned F' y z) (hF : ∀ i, F' i → F i ∨ x.heap.size ≤ i) : Turned F x z :=
  ⟨k.os.trans h.os, k.tape.trans h.tape, k.output.trans h.output, Nat.le_trans h.size k.size, fun i hi hn => (k.block i (Nat.lt_of_lt_of_le hi h.size) (fun hf => by rcases hF i hf with h1 | h1; exact hn h1; omega)).trans (h.block i hi hn)⟩
theorem Turned.grown {F : Nat → Prop} {w w' : World} {r : Option Nat} (h : w.grownBy w' r) (hr : ∀ k, r = some k → F k) : Turned F w w' := ⟨h.os, h.tape, h.output, h.size, fun k hk hn => h.block k hk (fun e => hn (hr k e.symm))⟩
theorem Turned.alloc (F : Nat → Prop) (w : World) (o : Obj) : Turned F w (w.alloc o) := ⟨rfl, rfl, rfl, by simp, fun k hk _ => Below.heap_alloc w o k hk⟩
theorem Turned.setCell (F : Nat → Prop) (w : World) (a : Addr) (v : Value) (h : F a.block) : Turned F w (w.setCell a v) := ⟨rfl, rfl, rfl, by simp, fun k _ hn => heap_setCell_other _ _ _ _ (fun e => hn (e ▸ h))⟩
theorem Turned.below {F : Nat → Prop} {w w' : World} {N : Nat} (h : Turned F w w') (hN : N ≤ w.heap.size) (hF : ∀ k, F k → N ≤ k) : Below N w w' :=
  ⟨h.os, h.tape, h.output, h.size, fun k hk => h.block k (by omega) (fun hf => by have := hF k hf; omega)⟩
theorem Turned.of_below {F : Nat → Prop} {w w' : World} (h : Below w.heap.size w w') : Turned F w w' := ⟨h.os, h.tape, h.output, h.size, fun k hk _ => h.block k hk⟩

theorem row_keep {w w' : World} {e sz : Nat} {v : Value} {n : Nat} {xs : List Value} (h : w.ownsRow 0 e sz v n xs) (hb : ∀ k, v.ownBlock = some k → w'.heap[k]? = w.heap[k]?) : w'.ownsRow 0 e sz v n xs := by
  obtain ⟨h0, h1 | ⟨g, cap, cur, rfl, h2, h3, h4⟩⟩ := h
  · exact ⟨h0, .inl h1⟩
  · exact ⟨h0, .inr ⟨g, cap, cur, rfl, h2, by rw [hb g rfl]; exact h3, h4⟩⟩
theorem row_lt {w : World} {e sz : Nat} {v : Value} {n : Nat} {xs : List Value} (h : w.ownsRow 0 e sz v n xs) {k : Nat} (hk : v.ownBlock = some k) : k < w.heap.size := (h.lt k hk).2
theorem row_form {w : World} {e sz : Nat} {v : Value} {n : Nat} {xs : List Value} (h : w.ownsRow 0 e sz v n xs) : ∃ p cap, v = .slice p n cap ∧ n ≤ cap ∧ cap ≤ maxLen := by
  obtain ⟨_, ⟨rfl, rfl⟩ | ⟨g, cap, cur, rfl, _, _, h1, h2, _⟩⟩ := h
  · exact ⟨_, _, rfl, Nat.le_refl _, by simp⟩
  · exact ⟨_, _, rfl, h1, h2⟩
theorem row_cell {w : World} {e sz g n cap : Nat} {xs : List Value} (h : w.ownsRow 0 e sz (.slice (some ⟨g, 0, none⟩) n cap) n xs) {j : Nat} {u : Value} (hj : xs[j]? = some u) : w.cell? ⟨g, j, none⟩ = some u ∧ w.frozen? ⟨g, j, none⟩ = false := by
  obtain ⟨h0, ⟨h1, _⟩ | ⟨g', cap', cur, h1, h2, h3, h4, h5, h6, h7⟩⟩ := h
  · cases h1
  · cases h1
    have hj' : cur[j]? = some u := by
      rw [← h7, List.getElem?_take] at hj
      split at hj
      · simpa using hj
      · cases hj
    exact ⟨by simp [World.cell?, h3, hj'], by simp [World.frozen?, h3]⟩
theorem row_set {w : World} {e sz g n cap : Nat} {xs : List Value} (h : w.ownsRow 0 e sz (.slice (some ⟨g, 0, none⟩) n cap) n xs) (j : Nat) (u : Value) : (w.setCell ⟨g, j, none⟩ u).ownsRow 0 e sz (.slice (some ⟨g, 0, none⟩) n cap) n (xs.set j u) := by
  obtain ⟨h0, ⟨h1, _⟩ | ⟨g', cap', cur, h1, h2, h3, h4, h5, h6, h7⟩⟩ := h
  · cases h1
  · cases h1
    refine ⟨by simpa using h0, .inr ⟨g, cap, cur.setIfInBounds j u, rfl, h2, heap_setCell_same w g j cur e u h3, h4, h5, by simpa using h6, ?_⟩⟩
    rw [Array.toList_setIfInBounds, List.take_set, h7]
theorem row_take {w : World} {e sz g m n cap : Nat} {xs : List Value} (h : w.ownsRow 0 e sz (.slice (some ⟨g, 0, none⟩) m cap) m xs) (hn : n ≤ m) : w.ownsRow 0 e sz (.slice (some ⟨g, 0, none⟩) n cap) n (xs.take (n * sz)) := by
  have hm : n * sz ≤ m * sz := Nat.mul_le_mul_right sz hn
  obtain ⟨h0, ⟨h1, _⟩ | ⟨g', cap', cur, h1, h2, h3, h4, h5, h6, h7⟩⟩ := h
  · cases h1
  · cases h1
    refine ⟨by rw [List.length_take, h0]; exact Nat.min_eq_left hm, .inr ⟨g, cap, cur, rfl, h2, h3, by omega, h5, h6, ?_⟩⟩
    rw [← h7, List.take_take]
    congr 1
    omega
theorem row_some {w : World} {e sz n cap : Nat} {p : Option Addr} {xs : List Value} (h : w.ownsRow 0 e sz (.slice p n cap) n xs) (hc : 0 < n) : ∃ g, p = some ⟨g, 0, none⟩ ∧ g < w.heap.size := by
  obtain ⟨h0, ⟨h1, h2⟩ | ⟨g', cap', cur, h1, h2, h3, _⟩⟩ := h
  · omega
  · cases h1; exact ⟨g', rfl, (Array.getElem?_eq_some_iff.1 h3).1⟩

/-- An element: the slice at its head, its other cells, and what the slice holds. -/
structure It where
  v : Value
  ex : List Value
  xs : List Value
def It.cells (s : It) : List Value := s.v :: s.ex
def flat (ss : List It) : List Value := ss.flatMap It.cells
theorem flat_append (a b : List It) : flat (a ++ b) = flat a ++ flat b := by simp [flat]
theorem flat_length {sz : Nat} : ∀ (ss : List It), (∀ s ∈ ss, s.ex.length + 1 = sz) → (flat ss).length = ss.length * sz
  | [], _ => by simp [flat]
  | s :: r, h => by
    have h1 := flat_length r (fun x hx => h x (List.mem_cons_of_mem _ hx))
    have h2 := h s (List.mem_cons_self ..)
    unfold flat at h1 ⊢
    rw [List.flatMap_cons, List.length_append, h1, List.length_cons, Nat.succ_mul]
    simp only [It.cells, List.length_cons]
    omega

structure Nest (w : World) (F : Nat → Prop) (e sz e2 : Nat) (v : Value) (ss : List It) : Prop where
  row : w.ownsRow 0 e sz v ss.length (flat ss)
  szs : ∀ s ∈ ss, s.ex.length + 1 = sz
  its : ∀ s ∈ ss, w.ownsRow 0 e2 1 s.v s.xs.length s.xs
  foot : ∀ k, v.ownBlock = some k → F k
  feet : ∀ s ∈ ss, ∀ k, s.v.ownBlock = some k → F k ∧ v.ownBlock ≠ some k
  apart : ss.Pairwise fun a b => ∀ k, a.v.ownBlock = some k → b.v.ownBlock ≠ some k

theorem Nest.keep {w w' : World} {F : Nat → Prop} {e sz e2 : Nat} {v : Value} {ss : List It} (h : Nest w F e sz e2 v ss) (hk : ∀ k, F k → k < w.heap.size → w'.heap[k]? = w.heap[k]?) : Nest w' F e sz e2 v ss :=
  ⟨row_keep h.row (fun k e => hk k (h.foot k e) (row_lt h.row e)), h.szs, fun s hs => row_keep (h.its s hs) (fun k e => hk k (h.feet s hs k e).1 (row_lt (h.its s hs) e)), h.foot, h.feet, h.apart⟩
theorem Nest.drewN {w : World} {F : Nat → Prop} {e sz e2 : Nat} {v : Value} {ss : List It} (h : Nest w F e sz e2 v ss) (n : Nat) : Nest (w.drewN n) F e sz e2 v ss := h.keep (fun _ _ _ => rfl)
theorem Nest.turned {w w' : World} {F G : Nat → Prop} {e sz e2 : Nat} {v : Value} {ss : List It} (h : Nest w F e sz e2 v ss) (ht : Turned G w w') (hd : ∀ k, F k → ¬ G k) : Nest w' F e sz e2 v ss :=
  h.keep (fun k hk hl => ht.block k hl (hd k hk))
theorem Nest.mono {w : World} {F F' : Nat → Prop} {e sz e2 : Nat} {v : Value} {ss : List It} (h : Nest w F e sz e2 v ss) (hF : ∀ k, F k → F' k) : Nest w F' e sz e2 v ss :=
  ⟨h.row, h.szs, h.its, fun k e => hF k (h.foot k e), fun s hs k e => ⟨hF k (h.feet s hs k e).1, (h.feet s hs k e).2⟩, h.apart⟩
theorem Nest.cell {w : World} {F : Nat → Prop} {e sz e2 g n cap : Nat} {ss : List It} (h : Nest w F e sz e2 (.slice (some ⟨g, 0, none⟩) n cap) ss) (hn : n = ss.length) (i : Nat) (hi : i < ss.length) : w.cell? ⟨g, i * sz, none⟩ = some ss[i].v ∧ w.frozen? ⟨g, i * sz, none⟩ = false := by
  subst hn
  refine row_cell h.row ?_
  have e1 : ss = ss.take i ++ ss[i] :: ss.drop (i + 1) := by rw [← List.drop_eq_getElem_cons hi, List.take_append_drop]
  have hl : (flat (ss.take i)).length = i * sz := by rw [flat_length _ (fun s hs => h.szs s (List.mem_of_mem_take hs)), List.length_take, Nat.min_eq_left (by omega)]
  conv => lhs; rw [e1]
  rw [flat_append, List.getElem?_append_right (by omega), hl, Nat.sub_self]
  rfl
theorem Nest.pop {w : World} {F : Nat → Prop} {e sz e2 g n cap : Nat} {ss : List It} {s : It} (h : Nest w F e sz e2 (.slice (some ⟨g, 0, none⟩) n cap) (ss ++ [s])) (hn : n = ss.length + 1) : Nest w F e sz e2 (.slice (some ⟨g, 0, none⟩) ss.length cap) ss := by
  subst hn
  have hl : (flat ss).length = ss.length * sz := flat_length _ (fun x hx => h.szs x (by simp [hx]))
  refine ⟨?_, fun x hx => h.szs x (by simp [hx]), fun x hx => h.its x (by simp [hx]), h.foot, fun x hx => h.feet x (by simp [hx]), (List.pairwise_append.1 h.apart).1⟩
  have := row_take (n := ss.length) (by simpa using h.row) (by omega)
  rw [flat_append, List.take_append_of_le_length (by omega), ← hl, List.take_length] at this
  exact this
theorem Nest.push {w w' : World} {F F' : Nat → Prop} {e sz e2 : Nat} {v v' : Value} {ss : List It} {s : It} (h : Nest w F e sz e2 v ss) (hg : w.grownBy w' v.ownBlock) (hrow : w'.ownsRow 0 e sz v' (ss.length + 1) (flat ss ++ s.cells)) (hsz : s.ex.length + 1 = sz)
    (hits : w.ownsRow 0 e2 1 s.v s.xs.length s.xs) (hFF : ∀ k, F k → F' k) (hv' : ∀ k, v'.ownBlock = some k → F' k ∧ (v.ownBlock = some k ∨ w.heap.size ≤ k)) (hs : ∀ k, s.v.ownBlock = some k → F' k ∧ ¬ F k) : Nest w' F' e sz e2 v' (ss ++ [s]) := by
  have hsk : ∀ k, s.v.ownBlock = some k → w'.heap[k]? = w.heap[k]? := fun k e => hg.block k (row_lt hits e) (fun e' => (hs k e).2 (h.foot k e'.symm))
  refine ⟨by simpa [flat_append, flat] using hrow, fun x hx => ?_, fun x hx => ?_, fun k e => (hv' k e).1, fun x hx k e => ?_, ?_⟩
  · rcases List.mem_append.1 hx with hx | hx
    · exact h.szs x hx
    · simp only [List.mem_singleton] at hx; subst hx; exact hsz
  · rcases List.mem_append.1 hx with hx | hx
    · exact row_keep (h.its x hx) (fun k e => hg.block k (row_lt (h.its x hx) e) (fun e' => (h.feet x hx k e).2 e'.symm))
    · simp only [List.mem_singleton] at hx; subst hx; exact row_keep hits hsk
  · rcases List.mem_append.1 hx with hx | hx
    · refine ⟨hFF k (h.feet x hx k e).1, fun e' => ?_⟩
      rcases (hv' k e').2 with h1 | h1
      · exact (h.feet x hx k e).2 h1
      · have := row_lt (h.its x hx) e; omega
    · simp only [List.mem_singleton] at hx; subst hx
      refine ⟨(hs k e).1, fun e' => ?_⟩
      rcases (hv' k e').2 with h1 | h1
      · exact (hs k e).2 (h.foot k h1)
      · have := row_lt hits e; omega
  · refine List.pairwise_append.2 ⟨h.apart, by simp, fun a ha b hb k e => ?_⟩
    simp only [List.mem_singleton] at hb; subst hb
    exact fun e' => (hs k e').2 (h.feet a ha k e).1
/-- The last element's slice is turned to v' (its row has grown), and stored. -/
theorem Nest.edit {w w1 : World} {F F' : Nat → Prop} {e sz e2 g n cap : Nat} {ss : List It} {s : It} {v' : Value} {xs' : List Value} (h : Nest w F e sz e2 (.slice (some ⟨g, 0, none⟩) n cap) (ss ++ [s])) (hn : n = ss.length + 1) (hg : w.grownBy w1 s.v.ownBlock)
    (hrow : w1.ownsRow 0 e2 1 v' xs'.length xs') (hFF : ∀ k, F k → F' k) (hv' : ∀ k, v'.ownBlock = some k → F' k ∧ (s.v.ownBlock = some k ∨ w.heap.size ≤ k)) : Nest (w1.setCell ⟨g, ss.length * sz, none⟩ v') F' e sz e2 (.slice (some ⟨g, 0, none⟩) n cap) (ss ++ [⟨v', s.ex, xs'⟩]) := by
  subst hn
  have hl : (flat ss).length = ss.length * sz := flat_length _ (fun x hx => h.szs x (by simp [hx]))
  have hgw : g < w.heap.size := row_lt h.row rfl
  have hgs : s.v.ownBlock ≠ some g := fun e => (h.feet s (by simp) g e).2 rfl
  have hrow0 := row_keep (w' := w1) h.row (fun k e => by
    have e' : g = k := by simpa [Value.ownBlock] using e
    subst e'
    exact hg.block g hgw (fun e => hgs e.symm))
  have hkeep : ∀ k, k ≠ g → (w1.setCell ⟨g, ss.length * sz, none⟩ v').heap[k]? = w1.heap[k]? := fun k hk => heap_setCell_other _ _ _ _ hk
  have hvg : v'.ownBlock ≠ some g := fun e => by
    rcases (hv' g e).2 with h1 | h1
    · exact hgs h1
    · omega
  refine ⟨?_, fun x hx => ?_, fun x hx => ?_, fun k e => hFF k (h.foot k e), fun x hx k e => ?_, ?_⟩
  · have := row_set (n := ss.length + 1) (by simpa using hrow0) (ss.length * sz) v'
    rw [flat_append, List.set_append_right _ _ (by omega), hl, Nat.sub_self] at this
    simpa [flat_append, flat, It.cells] using this
  · rcases List.mem_append.1 hx with hx | hx
    · exact h.szs x (by simp [hx])
    · simp only [List.mem_singleton] at hx; subst hx; exact h.szs s (by simp)
  · rcases List.mem_append.1 hx with hx | hx
    · have h1 := h.its x (by simp [hx])
      refine row_keep h1 (fun k e => ?_)
      have hkg : k ≠ g := fun e' => (h.feet x (by simp [hx]) k e).2 (by rw [e']; rfl)
      rw [hkeep k hkg]
      exact hg.block k (row_lt h1 e) (fun e' => (List.pairwise_append.1 h.apart).2.2 x hx s (by simp) k e e'.symm)
    · simp only [List.mem_singleton] at hx; subst hx
      exact row_keep hrow (fun k e => hkeep k (fun e' => hvg (by rw [← e']; exact e)))
  · rcases List.mem_append.1 hx with hx | hx
    · exact ⟨hFF k (h.feet x (by simp [hx]) k e).1, (h.feet x (by simp [hx]) k e).2⟩
    · simp only [List.mem_singleton] at hx; subst hx
      exact ⟨(hv' k e).1, fun e' => hvg (by have : g = k := by simpa [Value.ownBlock] using e'
                                            rw [this]; exact e)⟩
  · refine List.pairwise_append.2 ⟨(List.pairwise_append.1 h.apart).1, by simp, fun a ha b hb k e => ?_⟩
    simp only [List.mem_singleton] at hb; subst hb
    intro e'
    rcases (hv' k e').2 with h1 | h1
    · exact (List.pairwise_append.1 h.apart).2.2 a ha s (by simp) k e h1
    · have := row_lt (h.its a (by simp [ha])) e; omega
theorem Nest.last {w : World} {F : Nat → Prop} {e sz e2 : Nat} {v : Value} {ss : List It} {s : It} (h : Nest w F e sz e2 v (ss ++ [s])) : w.ownsRow 0 e2 1 s.v s.xs.length s.xs := h.its s (by simp)
end Go.Nest
