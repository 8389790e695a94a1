/- The compiler's scopes beside the law's own stack of texts: what one operation does to both. Plain; no walk. -/
import Derived.Test.YtiohjlnebeifaaaFmtScL
namespace Go.Proofs.YtiohjlnebeifaaaFmt.Sc
open Go.RowKit Go.Nest Go.Fmt

/-- The compiler's scopes and the law's own stack hold the same texts: bss below, b on top; all lies from block 'base' on. -/
structure Both (base : Nat) (w : World) (C : Nat) (F : Nat → Prop) (ts : List Nat) (init : List It) (s : It) (F2 : Nat → Prop) (g2 cap2 : Nat) (initM : List It) (sM : It) (bss : List (List UInt8)) (b : List UInt8) : Prop where
  cs : CompS w F C ts init s
  ns : Nest w F2 22 1 5 (.slice (some ⟨g2, 0, none⟩) (initM.length + 1) cap2) (initM ++ [sM])
  e1 : init.map It.xs = bss.map bcells
  e2 : initM.map It.xs = bss.map bcells
  e3 : s.xs = bcells b
  e4 : sM.xs = bcells b
  f2 : ∀ k, F2 k → ¬ F k ∧ k ≠ C ∧ k ∉ ts ∧ k < w.heap.size
  low : ∀ k, F k ∨ F2 k ∨ k ∈ ts ∨ k = C → base ≤ k

theorem Both.keep {base : Nat} {w w' : World} {C : Nat} {F : Nat → Prop} {ts : List Nat} {init : List It} {s : It} {F2 : Nat → Prop} {g2 cap2 : Nat} {initM : List It} {sM : It} {bss : List (List UInt8)} {b : List UInt8}
    (h : Both base w C F ts init s F2 g2 cap2 initM sM bss b) (hb : Below w.heap.size w w') : Both base w' C F ts init s F2 g2 cap2 initM sM bss b :=
  ⟨h.cs.turned (G := fun _ => False) ⟨hb.os, hb.tape, hb.output, hb.size, fun k hk _ => hb.block k hk⟩ (fun _ _ h => h), h.ns.keep (fun k _ hk => hb.block k hk), h.e1, h.e2, h.e3, h.e4,
    fun k hk => ⟨(h.f2 k hk).1, (h.f2 k hk).2.1, (h.f2 k hk).2.2.1, Nat.lt_of_lt_of_le (h.f2 k hk).2.2.2 hb.size⟩, h.low⟩
theorem Both.len {base : Nat} {w : World} {C : Nat} {F : Nat → Prop} {ts : List Nat} {init : List It} {s : It} {F2 : Nat → Prop} {g2 cap2 : Nat} {initM : List It} {sM : It} {bss : List (List UInt8)} {b : List UInt8}
    (h : Both base w C F ts init s F2 g2 cap2 initM sM bss b) : init.length = bss.length ∧ initM.length = bss.length := by
  have h1 := congrArg List.length h.e1
  have h2 := congrArg List.length h.e2
  simpa using And.intro h1 h2
/-- The law's stack where the compiler alone has turned. -/
theorem Both.ns_of {base : Nat} {w w' : World} {C : Nat} {F : Nat → Prop} {ts : List Nat} {init : List It} {s : It} {F2 : Nat → Prop} {g2 cap2 : Nat} {initM : List It} {sM : It} {bss : List (List UInt8)} {b : List UInt8}
    (h : Both base w C F ts init s F2 g2 cap2 initM sM bss b) (ht : Turned (fun k => F k ∨ k = C) w w') : Nest w' F2 22 1 5 (.slice (some ⟨g2, 0, none⟩) (initM.length + 1) cap2) (initM ++ [sM]) :=
  h.ns.turned ht (fun k hk hg => by rcases hg with h1 | h1; exact (h.f2 k hk).1 h1; exact (h.f2 k hk).2.1 h1)
theorem Both.turned_below {base : Nat} {w w' : World} {C : Nat} {F : Nat → Prop} {ts : List Nat} {init : List It} {s : It} {F2 : Nat → Prop} {g2 cap2 : Nat} {initM : List It} {sM : It} {bss : List (List UInt8)} {b : List UInt8}
    (h : Both base w C F ts init s F2 g2 cap2 initM sM bss b) (hbase : base ≤ w.heap.size) (ht : Turned (fun k => F k ∨ k = C) w w') : Below base w w' :=
  ht.below hbase (fun k hk => h.low k (by rcases hk with h1 | h1; exact .inl h1; exact .inr (.inr (.inr h1))))
/-- The cells of the text on top of the law's stack. -/
theorem nestM_top {w : World} {F : Nat → Prop} {e e2 g cap : Nat} {init : List It} {s : It} (h : Nest w F e 1 e2 (.slice (some ⟨g, 0, none⟩) (init.length + 1) cap) (init ++ [s])) :
    w.cell? ⟨g, init.length, none⟩ = some s.v ∧ w.frozen? ⟨g, init.length, none⟩ = false := by
  refine row_cell (by simpa using h.row) ?_
  have hl : (flat init).length = init.length * 1 := flat_length _ (fun x hx => h.szs x (by simp [hx]))
  rw [flat_append, List.getElem?_append_right (by omega), hl, Nat.mul_one, Nat.sub_self]
  simp [flat, It.cells]

/-- A text put behind both tops. -/
theorem Both.add {base : Nat} {w w2 w5 : World} {C : Nat} {F F' : Nat → Prop} {ts : List Nat} {init : List It} {s : It} {F2 : Nat → Prop} {g2 cap2 : Nat} {initM : List It} {sM : It} {bss : List (List UInt8)} {b cs : List UInt8} {v5 v' : Value}
    (h : Both base w C F ts init s F2 g2 cap2 initM sM bss b) (hbase : base ≤ w.heap.size)
    (hc : CompS w2 F' C ts init ⟨v', s.ex, s.xs ++ bcells cs⟩) (ht : Turned (fun k => F k ∨ k = C) w w2) (hch : Ch F F' w)
    (hg : w2.grownBy w5 sM.v.ownBlock) (hrow : w5.ownsRow 0 5 1 v5 (b ++ cs).length (bcells (b ++ cs))) (hat : v5.ownBlock = sM.v.ownBlock ∨ ∃ k, v5.ownBlock = some k ∧ w2.heap.size ≤ k) :
    ∃ F' v' F2' , Both base (w5.setCell ⟨g2, initM.length, none⟩ v5) C F' ts init ⟨v', s.ex, s.xs ++ bcells cs⟩ F2' g2 cap2 initM ⟨v5, sM.ex, bcells (b ++ cs)⟩ bss (b ++ cs) ∧ Below base w (w5.setCell ⟨g2, initM.length, none⟩ v5) := by
  have hns := h.ns_of ht
  have hb2 := h.turned_below hbase ht
  have hFM : F2 g2 := h.ns.foot g2 rfl
  have hsF : ∀ k, sM.v.ownBlock = some k → F2 k := fun k hk => (h.ns.feet sM (by simp) k hk).1
  have hf2' : ∀ k, F2 k → ¬ F' k ∧ k ≠ C ∧ k ∉ ts ∧ k < w.heap.size := fun k hk => by
    obtain ⟨a1, a2, a3, a4⟩ := h.f2 k hk
    exact ⟨fun hf => by rcases hch k hf with h1 | h1; exact a1 h1; omega, a2, a3, a4⟩
  have hs2 := ht.size
  have hs5 := hg.size
  have hkeep : ∀ k, k < w2.heap.size → ¬ F2 k → (w5.setCell ⟨g2, initM.length, none⟩ v5).heap[k]? = w2.heap[k]? := fun k hk hn => by
    have hkg : k ≠ g2 := fun e => hn (e ▸ hFM)
    rw [heap_setCell_other _ _ _ _ hkg]
    exact hg.block k hk (fun e => hn (hsF k e.symm))
  have hv5 : ∀ k, v5.ownBlock = some k → sM.v.ownBlock = some k ∨ w2.heap.size ≤ k := fun k hk => by
    rcases hat with e | ⟨k', e, hk'⟩
    · exact .inl (by rw [← e]; exact hk)
    · rw [e] at hk
      have : k' = k := by simpa using hk
      exact .inr (by omega)
  have hE := Nest.edit (F' := fun k => F2 k ∨ v5.ownBlock = some k) (s := sM) (xs' := bcells (b ++ cs)) hns rfl hg (by rw [bcells_length]; exact hrow) (fun k hk => .inl hk) (fun k hk => ⟨.inr hk, hv5 k hk⟩)
  rw [Nat.mul_one] at hE
  have hl5 : ∀ k, v5.ownBlock = some k → k < w5.heap.size := fun k hk => row_lt hrow hk
  refine ⟨F', v', fun k => F2 k ∨ v5.ownBlock = some k, ⟨?_, hE, h.e1, h.e2, by simp [h.e3, bcells_append], rfl, fun k hk => ?_, fun k hk => ?_⟩, hb2.trans ⟨hg.os, hg.tape, hg.output, by simp; omega, fun k hk => hkeep k (by have := hb2.size; omega) (fun hf => by have := h.low k (.inr (.inl hf)); omega)⟩⟩
  · refine hc.keep (by simp; omega) (fun k hk => hkeep k ?_ ?_)
    · rcases hk with h1 | rfl | h1
      · exact hc.fw k h1
      · exact hc.cw
      · exact (hc.tF k h1).2.2
    · intro hf
      obtain ⟨a1, a2, a3, _⟩ := hf2' k hf
      rcases hk with h1 | h1 | h1
      · exact a1 h1
      · exact a2 h1
      · exact a3 h1
  · rcases hk with hf | hf
    · obtain ⟨a1, a2, a3, a4⟩ := hf2' k hf
      exact ⟨a1, a2, a3, by simp; omega⟩
    · rcases hv5 k hf with e | e
      · obtain ⟨a1, a2, a3, a4⟩ := hf2' k (hsF k e)
        exact ⟨a1, a2, a3, by simp; omega⟩
      · have h6 := hl5 k hf
        exact ⟨fun h1 => by have := hc.fw k h1; omega, fun h1 => by have := hc.cw; omega, fun h1 => by have := (hc.tF k h1).2.2; omega, by simpa using h6⟩
  · rcases hk with hf | (hf | hf) | hf | hf
    · rcases hch k hf with h1 | h1
      · exact h.low k (.inl h1)
      · omega
    · exact h.low k (.inr (.inl hf))
    · rcases hv5 k hf with e | e
      · exact h.low k (.inr (.inl (hsF k e)))
      · omega
    · exact h.low k (.inr (.inr (.inl hf)))
    · exact h.low k (.inr (.inr (.inr hf)))

/-- A scope entered, an empty text pushed. -/
theorem Both.push {base : Nat} {w w2 w3 w5 : World} {C : Nat} {F F' : Nat → Prop} {ts : List Nat} {init : List It} {s : It} {F2 : Nat → Prop} {g2 cap2 : Nat} {initM : List It} {sM : It} {bss : List (List UInt8)} {b : List UInt8} {t : Nat} {ex : List Value} {h5 g5 cap5 : Nat}
    (h : Both base w C F ts init s F2 g2 cap2 initM sM bss b) (hbase : base ≤ w.heap.size)
    (hc : CompS w2 F' C (t :: ts) (init ++ [s]) ⟨.slice none 0 0, ex, []⟩) (ht : Turned (fun k => F k ∨ k = C) w w2) (hch : Ch F F' w) (htn : w.heap.size ≤ t)
    (hb3 : Below w2.heap.size w2 w3) (hh5 : w2.heap.size ≤ h5) (hr5 : w3.ownsRow 0 5 1 (.slice (some ⟨h5, 0, none⟩) 0 0) 0 [])
    (hg : w3.grownBy w5 (some g2)) (hrow : w5.ownsRow 0 22 1 (.slice (some ⟨g5, 0, none⟩) (initM.length + 1 + 1) cap5) (initM.length + 1 + 1) (flat (initM ++ [sM]) ++ [.slice (some ⟨h5, 0, none⟩) 0 0])) (hat : g2 = g5 ∨ w3.heap.size ≤ g5) :
    ∃ F2', Both base w5 C F' (t :: ts) (init ++ [s]) ⟨.slice none 0 0, ex, []⟩ F2' g5 cap5 (initM ++ [sM]) ⟨.slice (some ⟨h5, 0, none⟩) 0 0, [], []⟩ (bss ++ [b]) [] ∧ Below base w w5 := by
  have hns := (h.ns_of ht).keep (w' := w3) (fun k hk hlt => hb3.block k hlt)
  have hb2 := h.turned_below hbase ht
  have hFM : F2 g2 := h.ns.foot g2 rfl
  have hs2 := ht.size
  have hs3 := hb3.size
  have hs5 := hg.size
  have hf2' : ∀ k, F2 k → ¬ F' k ∧ k ≠ C ∧ k ∉ t :: ts ∧ k < w.heap.size := fun k hk => by
    obtain ⟨a1, a2, a3, a4⟩ := h.f2 k hk
    exact ⟨fun hf => by rcases hch k hf with h1 | h1; exact a1 h1; omega, a2, by simp only [List.mem_cons, not_or]; exact ⟨by omega, a3⟩, a4⟩
  have hkeep : ∀ k, k < w2.heap.size → k ≠ g2 → w5.heap[k]? = w2.heap[k]? := fun k hk hn =>
    (hg.block k (by omega) (fun e => hn (by simpa using e))).trans (hb3.block k hk)
  have h5w : h5 < w3.heap.size := row_lt hr5 rfl
  have g5w : g5 < w5.heap.size := row_lt hrow rfl
  have hP := Nest.push (F' := fun k => F2 k ∨ k = h5 ∨ k = g5) (v' := .slice (some ⟨g5, 0, none⟩) (initM.length + 1 + 1) cap5) (s := ⟨.slice (some ⟨h5, 0, none⟩) 0 0, [], []⟩) hns hg (by simpa [It.cells] using hrow) rfl hr5 (fun k hk => .inl hk)
    (fun k hk => by
      have e : g5 = k := by simpa [Value.ownBlock] using hk
      subst e
      refine ⟨.inr (.inr rfl), ?_⟩
      rcases hat with e | e
      · exact .inl (by rw [e]; rfl)
      · exact .inr e)
    (fun k hk => by
      have e : h5 = k := by simpa [Value.ownBlock] using hk
      subst e
      exact ⟨.inr (.inl rfl), fun hf => by have := (h.f2 _ hf).2.2.2; omega⟩)
  have hnew : ∀ k, w2.heap.size ≤ k → ¬ F' k ∧ k ≠ C ∧ k ∉ t :: ts := fun k hk =>
    ⟨fun h1 => by have := hc.fw k h1; omega, fun h1 => by have := hc.cw; omega, fun h1 => by have := (hc.tF k h1).2.2; omega⟩
  refine ⟨fun k => F2 k ∨ k = h5 ∨ k = g5, ⟨?_, by simpa using hP, by simp [h.e1, h.e3], by simp [h.e2, h.e4], rfl, rfl, fun k hk => ?_, fun k hk => ?_⟩, hb2.trans ⟨hg.os.trans hb3.os, hg.tape.trans hb3.tape, hg.output.trans hb3.output, by omega, fun k hk => hkeep k (by have := hb2.size; omega) (fun e => by have := h.low g2 (.inr (.inl hFM)); omega)⟩⟩
  · refine hc.keep (by omega) (fun k hk => hkeep k ?_ ?_)
    · rcases hk with h1 | rfl | h1
      · exact hc.fw k h1
      · exact hc.cw
      · exact (hc.tF k h1).2.2
    · rintro rfl
      obtain ⟨a1, a2, a3, _⟩ := hf2' _ hFM
      rcases hk with h1 | h1 | h1
      · exact a1 h1
      · exact a2 h1
      · exact a3 h1
  · rcases hk with hf | rfl | rfl
    · obtain ⟨a1, a2, a3, a4⟩ := hf2' k hf
      exact ⟨a1, a2, a3, by omega⟩
    · obtain ⟨a1, a2, a3⟩ := hnew k hh5
      exact ⟨a1, a2, a3, by omega⟩
    · rcases hat with rfl | e
      · obtain ⟨a1, a2, a3, a4⟩ := hf2' _ hFM
        exact ⟨a1, a2, a3, by omega⟩
      · obtain ⟨a1, a2, a3⟩ := hnew k (by omega)
        exact ⟨a1, a2, a3, g5w⟩
  · rcases hk with hf | (hf | rfl | rfl) | hf | hf
    · rcases hch k hf with h1 | h1
      · exact h.low k (.inl h1)
      · omega
    · exact h.low k (.inr (.inl hf))
    · omega
    · rcases hat with rfl | e
      · exact h.low _ (.inr (.inl hFM))
      · omega
    · rcases List.mem_cons.1 hf with rfl | hf
      · omega
      · exact h.low k (.inr (.inr (.inl hf)))
    · exact h.low k (.inr (.inr (.inr hf)))

/-- A scope left, the top text popped. -/
theorem Both.pop {base : Nat} {w w2 : World} {C : Nat} {F : Nat → Prop} {t t1 : Nat} {ts : List Nat} {init : List It} {s s1 : It} {F2 : Nat → Prop} {g2 cap2 : Nat} {initM : List It} {sM s1M : It} {bss : List (List UInt8)} {b b1 : List UInt8}
    (h : Both base w C F (t :: t1 :: ts) (init ++ [s1]) s F2 g2 cap2 (initM ++ [s1M]) sM (bss ++ [b1]) b) (hbase : base ≤ w.heap.size)
    (hc : CompS w2 F C (t1 :: ts) init s1) (ht : Turned (fun k => F k ∨ k = C) w w2) :
    Both base w2 C F (t1 :: ts) init s1 F2 g2 cap2 initM s1M bss b1 ∧ Below base w w2 := by
  have hns := h.ns_of ht
  have hl := h.len
  have e1 := h.e1
  have e2 := h.e2
  simp only [List.map_append, List.map_cons, List.map_nil] at e1 e2
  simp only [List.length_append, List.length_cons, List.length_nil] at hl
  have q1 := List.append_inj e1 (by simp; omega)
  have q2 := List.append_inj e2 (by simp; omega)
  have hP := Nest.pop hns (by simp)
  refine ⟨⟨hc, by simpa using hP, q1.1, q2.1, by simpa using q1.2, by simpa using q2.2, fun k hk => ?_, fun k hk => ?_⟩, h.turned_below hbase ht⟩
  · obtain ⟨a1, a2, a3, a4⟩ := h.f2 k hk
    exact ⟨a1, a2, fun hm => a3 (List.mem_cons_of_mem _ hm), Nat.lt_of_lt_of_le a4 ht.size⟩
  · refine h.low k ?_
    rcases hk with hf | hf | hf | hf
    · exact .inl hf
    · exact .inr (.inl hf)
    · exact .inr (.inr (.inl (List.mem_cons_of_mem _ hf)))
    · exact .inr (.inr (.inr hf))
end Go.Proofs.YtiohjlnebeifaaaFmt.Sc
