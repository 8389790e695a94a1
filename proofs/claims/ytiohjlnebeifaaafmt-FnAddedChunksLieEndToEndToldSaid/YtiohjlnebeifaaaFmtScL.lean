/- The compiler's stack of scopes in memory: what stands behind an added instruction, an entered and a left scope. Plain; no walk. -/
import Derived.Test.YtiohjlnebeifaaaFmtNest
import Derived.Test.YtiohjlnebeifaaaFmtRows
namespace Go.Proofs.YtiohjlnebeifaaaFmt.Sc
open Go.RowKit Go.Nest

/-- A chain of symbol tables: each one's first cell leads to the next. -/
def Chain (w : World) : List Nat → Value → Prop
  | [], v => v = .pointer none
  | t :: r, v => v = .pointer (some ⟨t, 0, none⟩) ∧ w.cell? ⟨t, 1, none⟩ = some (.bool false) ∧ ∃ u, w.cell? ⟨t, 0, none⟩ = some u ∧ Chain w r u
theorem Chain.keep {w w' : World} : ∀ {ts : List Nat} {v : Value}, Chain w ts v → (∀ t ∈ ts, w'.heap[t]? = w.heap[t]?) → Chain w' ts v
  | [], _, h, _ => h
  | t :: r, _, ⟨h1, h2, u, h3, h4⟩, hk =>
    ⟨h1, (World.cell?_of_block (a := ⟨t, 1, none⟩) (hk t (by simp))).trans h2, u, (World.cell?_of_block (a := ⟨t, 0, none⟩) (hk t (by simp))).trans h3, h4.keep (fun x hx => hk x (by simp [hx]))⟩

/-- The compiler in block C: the scopes are init and, on top, s; the symbol tables are ts, the current one first. -/
structure CompS (w : World) (F : Nat → Prop) (C : Nat) (ts : List Nat) (init : List It) (s : It) : Prop where
  sc : ∃ g cap, w.cell? ⟨C, 7, none⟩ = some (.slice (some ⟨g, 0, none⟩) (init.length + 1) cap) ∧ Nest w F 51 3 5 (.slice (some ⟨g, 0, none⟩) (init.length + 1) cap) (init ++ [s])
  idx : w.cell? ⟨C, 8, none⟩ = some (.int .i64 init.length)
  sym : ∃ v, w.cell? ⟨C, 6, none⟩ = some v ∧ Chain w ts v
  len : ts.length = init.length + 1
  trc : w.cell? ⟨C, 14, none⟩ = some .nilIface
  frz : ∀ j, w.frozen? ⟨C, j, none⟩ = false
  cF : ¬ F C
  cw : C < w.heap.size
  tF : ∀ t ∈ ts, ¬ F t ∧ t ≠ C ∧ t < w.heap.size
  fw : ∀ k, F k → k < w.heap.size

theorem CompS.keep {w w' : World} {F : Nat → Prop} {C : Nat} {ts : List Nat} {init : List It} {s : It} (h : CompS w F C ts init s) (hs : w.heap.size ≤ w'.heap.size)
    (hk : ∀ k, (F k ∨ k = C ∨ k ∈ ts) → w'.heap[k]? = w.heap[k]?) : CompS w' F C ts init s := by
  have hC : ∀ j, w'.cell? ⟨C, j, none⟩ = w.cell? ⟨C, j, none⟩ := fun j => World.cell?_of_block (a := ⟨C, j, none⟩) (hk C (.inr (.inl rfl)))
  obtain ⟨g, cap, h1, h2⟩ := h.sc
  obtain ⟨v, h3, h4⟩ := h.sym
  exact ⟨⟨g, cap, (hC 7).trans h1, h2.keep (fun k hF _ => hk k (.inl hF))⟩, (hC 8).trans h.idx, ⟨v, (hC 6).trans h3, h4.keep (fun t ht => hk t (.inr (.inr ht)))⟩, h.len, (hC 14).trans h.trc,
    fun j => (World.frozen?_of_block (a := ⟨C, j, none⟩) (hk C (.inr (.inl rfl)))).trans (h.frz j), h.cF, Nat.lt_of_lt_of_le h.cw hs,
    fun t ht => ⟨(h.tF t ht).1, (h.tF t ht).2.1, Nat.lt_of_lt_of_le (h.tF t ht).2.2 hs⟩, fun k hF => Nat.lt_of_lt_of_le (h.fw k hF) hs⟩
theorem CompS.drewN {w : World} {F : Nat → Prop} {C : Nat} {ts : List Nat} {init : List It} {s : It} (h : CompS w F C ts init s) (n : Nat) : CompS (w.drewN n) F C ts init s := h.keep (Nat.le_refl _) (fun _ _ => rfl)
theorem CompS.turned {w w' : World} {F G : Nat → Prop} {C : Nat} {ts : List Nat} {init : List It} {s : It} (h : CompS w F C ts init s) (ht : Turned G w w') (hd : ∀ k, (F k ∨ k = C ∨ k ∈ ts) → ¬ G k) : CompS w' F C ts init s :=
  h.keep ht.size (fun k hk => ht.block k (by rcases hk with h1 | rfl | h1; exact h.fw k h1; exact h.cw; exact (h.tF k h1).2.2) (hd k hk))

/-- The cells of the scope on top. -/
theorem nest_top {w : World} {F : Nat → Prop} {e e2 g cap : Nat} {init : List It} {s : It} (h : Nest w F e 3 e2 (.slice (some ⟨g, 0, none⟩) (init.length + 1) cap) (init ++ [s])) (j : Nat) (v : Value) (hv : s.cells[j]? = some v) :
    w.cell? ⟨g, init.length * 3 + j, none⟩ = some v ∧ w.frozen? ⟨g, init.length * 3 + j, none⟩ = false := by
  refine row_cell (by simpa using h.row) ?_
  have hl : (flat init).length = init.length * 3 := flat_length _ (fun x hx => h.szs x (by simp [hx]))
  rw [flat_append, List.getElem?_append_right (by omega), hl, Nat.add_sub_cancel_left]
  simpa [flat] using hv
theorem nest_top_v {w : World} {F : Nat → Prop} {e e2 g cap : Nat} {init : List It} {s : It} (h : Nest w F e 3 e2 (.slice (some ⟨g, 0, none⟩) (init.length + 1) cap) (init ++ [s])) :
    w.cell? ⟨g, init.length * 3, none⟩ = some s.v ∧ w.frozen? ⟨g, init.length * 3, none⟩ = false := nest_top h 0 s.v rfl
theorem nest_top_m {w : World} {F : Nat → Prop} {e e2 g cap : Nat} {init : List It} {s : It} (h : Nest w F e 3 e2 (.slice (some ⟨g, 0, none⟩) (init.length + 1) cap) (init ++ [s])) :
    ∃ m, w.cell? ⟨g, init.length * 3 + 2, none⟩ = some m := by
  have hs := h.szs s (by simp)
  refine ⟨s.cells[2]'(by simp [It.cells]; omega), (nest_top h 2 _ (List.getElem?_eq_getElem _)).1⟩

/-- The frame of an operation on the compiler. -/
def Ch (F F' : Nat → Prop) (w : World) : Prop := ∀ k, F' k → F k ∨ w.heap.size ≤ k

theorem CompS.edit {w w1 : World} {F : Nat → Prop} {C : Nat} {ts : List Nat} {init : List It} {s : It} {v' : Value} {xs' : List Value} {g cap : Nat} (h : CompS w F C ts init s)
    (h7 : w.cell? ⟨C, 7, none⟩ = some (.slice (some ⟨g, 0, none⟩) (init.length + 1) cap))
    (hg : w.grownBy w1 s.v.ownBlock) (hrow : w1.ownsRow 0 5 1 v' xs'.length xs') (hat : v'.ownBlock = s.v.ownBlock ∨ v'.ownBlock = some w.heap.size) :
    ∃ F', CompS (w1.setCell ⟨g, init.length * 3, none⟩ v') F' C ts init ⟨v', s.ex, xs'⟩ ∧ Turned (fun k => F k ∨ k = C) w (w1.setCell ⟨g, init.length * 3, none⟩ v') ∧ Ch F F' w := by
  obtain ⟨g', cap', h1, h2⟩ := h.sc
  rw [h7] at h1
  simp only [Option.some.injEq, Value.slice.injEq, Addr.mk.injEq, and_true, true_and] at h1
  obtain ⟨rfl, rfl⟩ := h1
  have hv' : ∀ k, v'.ownBlock = some k → s.v.ownBlock = some k ∨ k = w.heap.size := fun k hk => by
    rcases hat with e | e
    · exact .inl (by rw [← e]; exact hk)
    · rw [e] at hk; exact .inr (by simpa using hk.symm)
  have hFg : F g := h2.foot g rfl
  have hsF : ∀ k, s.v.ownBlock = some k → F k := fun k hk => (h2.feet s (by simp) k hk).1
  have hsame : ∀ k, k < w.heap.size → ¬ F k → (w1.setCell ⟨g, init.length * 3, none⟩ v').heap[k]? = w.heap[k]? := fun k hk hn => by
    have hkg : k ≠ g := fun e => hn (e ▸ hFg)
    rw [heap_setCell_other _ _ _ _ hkg]
    exact hg.block k hk (fun e => hn (hsF k e.symm))
  have hs1 : w.heap.size ≤ (w1.setCell ⟨g, init.length * 3, none⟩ v').heap.size := by have := hg.size; simpa using this
  refine ⟨fun k => F k ∨ v'.ownBlock = some k, ?_, ⟨?_, ?_, ?_, hs1, fun k hk hn => hsame k hk (fun hf => hn (.inl hf))⟩, ?_⟩
  · have hC : ∀ j, (w1.setCell ⟨g, init.length * 3, none⟩ v').cell? ⟨C, j, none⟩ = w.cell? ⟨C, j, none⟩ := fun j => World.cell?_of_block (a := ⟨C, j, none⟩) (hsame C h.cw h.cF)
    obtain ⟨v, h3, h4⟩ := h.sym
    refine ⟨⟨g, cap, (hC 7).trans h7, ?_⟩, (hC 8).trans h.idx, ⟨v, (hC 6).trans h3, h4.keep (fun t ht => hsame t (h.tF t ht).2.2 (h.tF t ht).1)⟩, h.len, (hC 14).trans h.trc,
      fun j => (World.frozen?_of_block (a := ⟨C, j, none⟩) (hsame C h.cw h.cF)).trans (h.frz j), ?_, Nat.lt_of_lt_of_le h.cw hs1, fun t ht => ⟨?_, (h.tF t ht).2.1, Nat.lt_of_lt_of_le (h.tF t ht).2.2 hs1⟩, ?_⟩
    · exact Nest.edit (F' := fun k => F k ∨ v'.ownBlock = some k) (s := s) h2 rfl hg hrow (fun k hk => .inl hk) (fun k hk => ⟨.inr hk, by rcases hv' k hk with e | e; exact .inl e; exact .inr (by omega)⟩)
    · rintro (hf | hf)
      · exact h.cF hf
      · rcases hv' C hf with e | e
        · exact h.cF (hsF C e)
        · have := h.cw; omega
    · rintro (hf | hf)
      · exact (h.tF t ht).1 hf
      · rcases hv' t hf with e | e
        · exact (h.tF t ht).1 (hsF t e)
        · have := (h.tF t ht).2.2; omega
    · rintro k (hf | hf)
      · exact Nat.lt_of_lt_of_le (h.fw k hf) hs1
      · have := row_lt hrow hf; simpa using this
  · exact hg.os
  · exact hg.tape
  · exact hg.output
  · rintro k (hf | hf)
    · exact .inl hf
    · rcases hv' k hf with e | e
      · exact .inl (hsF k e)
      · exact .inr (by omega)

theorem set_same {w : World} {a : Addr} {u v : Value} (h : w.cell? a = some u) : (w.setCell a v).cell? a = some v := World.cell?_setCell_same _ _ _ h
theorem set_off {w : World} {C i j : Nat} {v : Value} (h : i ≠ j) : (w.setCell ⟨C, i, none⟩ v).cell? ⟨C, j, none⟩ = w.cell? ⟨C, j, none⟩ := World.cell?_setCell_other _ _ _ _ (fun e => h (congrArg Addr.off e))
theorem CompS.enter {w w5 w6 : World} {F : Nat → Prop} {C : Nat} {ts : List Nat} {init : List It} {s : It} {g cap g5 cap5 t : Nat} {m1 m2 : Value} (h : CompS w F C ts init s)
    (h7 : w.cell? ⟨C, 7, none⟩ = some (.slice (some ⟨g, 0, none⟩) (init.length + 1) cap)) (hg : w.grownBy w5 (some g))
    (hown : w5.ownsRow 0 51 3 (.slice (some ⟨g5, 0, none⟩) (init.length + 1 + 1) cap5) (init.length + 1 + 1) (flat (init ++ [s]) ++ [.slice none 0 0, m1, m2])) (hat : g = g5 ∨ w.heap.size ≤ g5)
    (hb : Below w5.heap.size ((w5.setCell ⟨C, 7, none⟩ (.slice (some ⟨g5, 0, none⟩) (init.length + 1 + 1) cap5)).setCell ⟨C, 8, none⟩ (.int .i64 ((init.length : Int) + 1))) w6)
    (ht1 : w5.heap.size ≤ t) (ht2 : t < w6.heap.size) (ht3 : w6.cell? ⟨t, 0, none⟩ = w.cell? ⟨C, 6, none⟩) (ht4 : w6.cell? ⟨t, 1, none⟩ = some (.bool false)) :
    ∃ F', CompS (w6.setCell ⟨C, 6, none⟩ (.pointer (some ⟨t, 0, none⟩))) F' C (t :: ts) (init ++ [s]) ⟨.slice none 0 0, [m1, m2], []⟩ ∧ Turned (fun k => F k ∨ k = C) w (w6.setCell ⟨C, 6, none⟩ (.pointer (some ⟨t, 0, none⟩))) ∧ Ch F F' w := by
  obtain ⟨g', cap', h1, h2⟩ := h.sc
  rw [h7] at h1
  simp only [Option.some.injEq, Value.slice.injEq, Addr.mk.injEq, and_true, true_and] at h1
  obtain ⟨rfl, rfl⟩ := h1
  have hFg : F g := h2.foot g rfl
  have hCg : C ≠ g := fun e => h.cF (e ▸ hFg)
  have hCw := h.cw
  have hs5 := hg.size
  have hC5 : w5.heap[C]? = w.heap[C]? := hg.block C h.cw (fun e => hCg (by simpa using e))
  have hg5w : g5 < w5.heap.size := row_lt hown rfl
  have hg5C : g5 ≠ C := by rcases hat with e | e; exact fun e' => hCg (by rw [e, e']); omega
  have hsw : ((w5.setCell ⟨C, 7, none⟩ (.slice (some ⟨g5, 0, none⟩) (init.length + 1 + 1) cap5)).setCell ⟨C, 8, none⟩ (.int .i64 ((init.length : Int) + 1))).heap.size = w5.heap.size := by simp
  have hs6 : w5.heap.size ≤ w6.heap.size := by have := hb.size; omega
  have hk6 : ∀ k, k < w5.heap.size → k ≠ C → (w6.setCell ⟨C, 6, none⟩ (.pointer (some ⟨t, 0, none⟩))).heap[k]? = w5.heap[k]? := fun k hk hne => by
    rw [heap_setCell_other _ _ _ _ hne, hb.block k hk, heap_setCell_other _ _ _ _ hne, heap_setCell_other _ _ _ _ hne]
  have hkw : ∀ k, k < w.heap.size → k ≠ C → k ≠ g → (w6.setCell ⟨C, 6, none⟩ (.pointer (some ⟨t, 0, none⟩))).heap[k]? = w.heap[k]? := fun k hk hne hng => by
    rw [hk6 k (by omega) hne]; exact hg.block k hk (fun e => hng (by simpa using e))
  have c7 : w5.cell? ⟨C, 7, none⟩ = _ := (World.cell?_of_block (a := ⟨C, 7, none⟩) hC5).trans h7
  have c8 : w5.cell? ⟨C, 8, none⟩ = _ := (World.cell?_of_block (a := ⟨C, 8, none⟩) hC5).trans h.idx
  have c14 : w5.cell? ⟨C, 14, none⟩ = _ := (World.cell?_of_block (a := ⟨C, 14, none⟩) hC5).trans h.trc
  obtain ⟨v, h3, h4⟩ := h.sym
  have c6 : w5.cell? ⟨C, 6, none⟩ = _ := (World.cell?_of_block (a := ⟨C, 6, none⟩) hC5).trans h3
  have hC5w : C < w5.heap.size := by omega
  have htC : t ≠ C := by omega
  refine ⟨fun k => F k ∨ k = g5, ?_, ⟨?_, ?_, ?_, ?_, fun k hk hn => ?_⟩, ?_⟩
  · refine ⟨⟨g5, cap5, ?_, ?_⟩, ?_, ⟨_, ?_, rfl, ?_, v, ?_, h4.keep (fun t' ht' => ?_)⟩, ?_, ?_, fun j => ?_, ?_, ?_, fun t' ht' => ?_, ?_⟩
    · rw [set_off (by decide), hb.cell (p := ⟨C, 7, none⟩) hC5w, set_off (by decide), set_same c7]; simp
    · have hp := Nest.push (F' := fun k => F k ∨ k = g5) (v' := .slice (some ⟨g5, 0, none⟩) (init.length + 1 + 1) cap5) (s := ⟨.slice none 0 0, [m1, m2], []⟩) h2 hg (by simpa [It.cells] using hown) rfl (World.ownsRow_nil _ _ _ _) (fun k hk => .inl hk)
        (fun k hk => by
          have e : g5 = k := by simpa [Value.ownBlock] using hk
          subst e
          refine ⟨.inr rfl, ?_⟩
          rcases hat with e | e
          · exact .inl (by rw [e]; rfl)
          · exact .inr e) (fun k hk => by simp [Value.ownBlock] at hk)
      refine Nest.keep (w := w5) (by simpa using hp) (fun k hk hlt => hk6 k hlt ?_)
      rcases hk with hf | rfl
      · exact fun e => h.cF (e ▸ hf)
      · exact hg5C
    · rw [set_off (by decide), hb.cell (p := ⟨C, 8, none⟩) hC5w, set_same (u := .int .i64 init.length) (by rw [set_off (by decide)]; exact c8)]; simp
    · exact set_same (u := v) (by rw [hb.cell (p := ⟨C, 6, none⟩) hC5w, set_off (by decide), set_off (by decide)]; exact c6)
    · rw [World.cell?_setCell_other _ _ _ _ (by simp only [ne_eq, Addr.mk.injEq, not_and]; exact fun e => absurd e.symm htC)]; exact ht4
    · rw [World.cell?_setCell_other _ _ _ _ (by simp only [ne_eq, Addr.mk.injEq, not_and]; exact fun e => absurd e.symm htC)]; exact ht3.trans h3
    · refine hkw t' (h.tF t' ht').2.2 (h.tF t' ht').2.1 (fun e => (h.tF t' ht').1 (e ▸ hFg))
    · simp [h.len]
    · rw [set_off (by decide), hb.cell (p := ⟨C, 14, none⟩) hC5w, set_off (by decide), set_off (by decide)]; exact c14
    · rw [World.frozen?_setCell, hb.frozen (p := ⟨C, j, none⟩) hC5w, World.frozen?_setCell, World.frozen?_setCell]; exact (World.frozen?_of_block (a := ⟨C, j, none⟩) hC5).trans (h.frz j)
    · rintro (hf | hf)
      · exact h.cF hf
      · exact hg5C hf.symm
    · simp; omega
    · rcases List.mem_cons.1 ht' with rfl | ht'
      · refine ⟨?_, htC, by simpa using ht2⟩
        rintro (hf | hf)
        · have := h.fw _ hf; omega
        · omega
      · obtain ⟨a1, a2, a3⟩ := h.tF t' ht'
        refine ⟨?_, a2, by simp; omega⟩
        rintro (hf | hf)
        · exact a1 hf
        · rcases hat with e | e
          · exact a1 (by rw [hf, ← e]; exact hFg)
          · omega
    · rintro k (hf | hf)
      · have := h.fw k hf; simp; omega
      · simp; omega
  · exact hb.os.trans hg.os
  · exact hb.tape.trans hg.tape
  · exact hb.output.trans hg.output
  · simp; omega
  · exact hkw k hk (fun e => hn (.inr e)) (fun e => hn (.inl (e ▸ hFg)))
  · rintro k (hf | hf)
    · exact .inl hf
    · rcases hat with e | e
      · exact .inl (by rw [hf, ← e]; exact hFg)
      · exact .inr (by omega)

/-- What stands behind leaveScope. -/
theorem CompS.leave {w w2 : World} {F : Nat → Prop} {C : Nat} {t t1 : Nat} {ts : List Nat} {init : List It} {s s1 : It} {g cap : Nat} (h : CompS w F C (t :: t1 :: ts) (init ++ [s1]) s)
    (h7 : w.cell? ⟨C, 7, none⟩ = some (.slice (some ⟨g, 0, none⟩) (init.length + 1 + 1) cap))
    (hw2 : w2.heap = (((w.setCell ⟨C, 7, none⟩ (.slice (some ⟨g, 0, none⟩) (init.length + 1) cap)).setCell ⟨C, 8, none⟩ (.int .i64 init.length)).setCell ⟨C, 6, none⟩ (.pointer (some ⟨t1, 0, none⟩))).heap)
    (ho : w2.os = w.os) (htp : w2.tape = w.tape) (hou : w2.output = w.output) :
    CompS w2 F C (t1 :: ts) init s1 ∧ Turned (fun k => k = C) w w2 := by
  have key : CompS (((w.setCell ⟨C, 7, none⟩ (.slice (some ⟨g, 0, none⟩) (init.length + 1) cap)).setCell ⟨C, 8, none⟩ (.int .i64 init.length)).setCell ⟨C, 6, none⟩ (.pointer (some ⟨t1, 0, none⟩))) F C (t1 :: ts) init s1 := by
    obtain ⟨g', cap', h1, h2⟩ := h.sc
    rw [h7] at h1
    simp only [List.length_append, List.length_cons, List.length_nil, Nat.zero_add, Option.some.injEq, Value.slice.injEq, Addr.mk.injEq, and_true, true_and] at h1
    obtain ⟨rfl, rfl⟩ := h1
    have hCw := h.cw
    have hkk : ∀ k : Nat, k ≠ C → (((w.setCell ⟨C, 7, none⟩ (.slice (some ⟨g, 0, none⟩) (init.length + 1) cap)).setCell ⟨C, 8, none⟩ (.int .i64 init.length)).setCell ⟨C, 6, none⟩ (.pointer (some ⟨t1, 0, none⟩))).heap[k]? = w.heap[k]? := fun k hne => by
      rw [heap_setCell_other _ _ _ _ hne, heap_setCell_other _ _ _ _ hne, heap_setCell_other _ _ _ _ hne]
    obtain ⟨v, h3, h4⟩ := h.sym
    obtain ⟨rfl, h5, u, h6, h8⟩ := h4
    have hch := h8
    obtain ⟨rfl, _⟩ := h8
    have hi := h.idx
    refine ⟨⟨g, cap, ?_, ?_⟩, ?_, ⟨_, ?_, hch.keep (fun t' ht' => hkk t' (h.tF t' (by simp at ht' ⊢; exact .inr ht')).2.1)⟩, ?_, ?_, fun j => ?_, h.cF, ?_, fun t' ht' => ?_, fun k hf => ?_⟩
    · rw [set_off (by decide), set_off (by decide)]; exact set_same h7
    · have hp : Nest w F 51 3 5 (.slice (some ⟨g, 0, none⟩) (init ++ [s1]).length cap) (init ++ [s1]) := Nest.pop h2 (by simp)
      refine Nest.keep (w := w) (by simpa using hp) (fun k hf _ => hkk k (fun e => h.cF (e ▸ hf)))
    · rw [set_off (by decide)]; exact set_same (by rw [set_off (by decide)]; exact hi)
    · exact set_same (by rw [set_off (by decide), set_off (by decide)]; exact h3)
    · have := h.len; simp at this ⊢; omega
    · rw [set_off (by decide), set_off (by decide), set_off (by decide)]; exact h.trc
    · rw [World.frozen?_setCell, World.frozen?_setCell, World.frozen?_setCell]; exact h.frz j
    · simpa using hCw
    · obtain ⟨a1, a2, a3⟩ := h.tF t' (by simp at ht' ⊢; exact .inr ht')
      exact ⟨a1, a2, by simpa using a3⟩
    · simpa using h.fw k hf
  have hkey : ∀ k : Nat, w2.heap[k]? = (((w.setCell ⟨C, 7, none⟩ (.slice (some ⟨g, 0, none⟩) (init.length + 1) cap)).setCell ⟨C, 8, none⟩ (.int .i64 init.length)).setCell ⟨C, 6, none⟩ (.pointer (some ⟨t1, 0, none⟩))).heap[k]? := fun k => by rw [hw2]
  refine ⟨key.keep (by rw [hw2]; exact Nat.le_refl _) (fun k _ => hkey k), ⟨ho, htp, hou, by rw [hw2]; simp, fun k hk hn => ?_⟩⟩
  have hne : k ≠ C := hn
  rw [hkey, heap_setCell_other _ _ _ _ hne, heap_setCell_other _ _ _ _ hne, heap_setCell_other _ _ _ _ hne]
end Go.Proofs.YtiohjlnebeifaaaFmt.Sc
