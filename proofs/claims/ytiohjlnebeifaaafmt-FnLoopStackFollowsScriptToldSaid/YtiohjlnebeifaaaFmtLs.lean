/- The state of the law FnLoopStackFollowsScript: the compiler's loops, the law's own stacks, all rows apart. Plain. -/
import Derived.Test.YtiohjlnebeifaaaFmtLoopT
import Derived.Test.YtiohjlnebeifaaaFmtSame
namespace Go.Proofs.YtiohjlnebeifaaaFmt.Lp
set_option linter.unusedSimpArgs false
open Go.ChangeShapes Go.WideShapes Go.ChangeAt Go.RowKit Go.Nest

abbrev Ix := Nat × Nat
/-- The rows at n open loops. -/
def act (n : Nat) (i : Ix) : Prop := (i.1 ≤ 2 ∧ i.2 = 0) ∨ (3 ≤ i.1 ∧ i.1 ≤ 6 ∧ i.2 < n)
theorem act_row {n k j : Nat} (h3 : 3 ≤ k) (h6 : k ≤ 6) (hj : j < n) : act n (k, j) := .inr ⟨h3, h6, hj⟩
theorem act_top {n k : Nat} (h : k ≤ 2) : act n (k, 0) := .inl ⟨h, rfl⟩
def ety (i : Ix) : Nat := if i.1 = 0 then 27 else if i.1 ≤ 2 then 31 else 3
def col (v : Ix → Value) (k n : Nat) : List Value := (List.range n).map fun j => v (k, j)
theorem col_length (v : Ix → Value) (k n : Nat) : (col v k n).length = n := by simp [col]
theorem col_succ (v : Ix → Value) (k n : Nat) : col v k (n + 1) = col v k n ++ [v (k, n)] := by simp [col, List.range_succ]
theorem col_congr {v v2 : Ix → Value} {k n : Nat} (h : ∀ j, j < n → v2 (k, j) = v (k, j)) : col v2 k n = col v k n := by
  unfold col
  refine List.map_congr_left (fun j hj => h j (List.mem_range.1 hj))
theorem col_get (v : Ix → Value) (k n j : Nat) (hj : j < n) : (col v k n)[j]? = some (v (k, j)) := by simp [col, List.getElem?_range hj]
def brk (hs : List (List Int × List Int)) (j : Nat) : List Int := ((hs[j]?).map Prod.fst).getD []
def cnt (hs : List (List Int × List Int)) (j : Nat) : List Int := ((hs[j]?).map Prod.snd).getD []
/-- hs: what the law has noted; hc: what the loops hold. -/
def cont (ls : List Nat) (v : Ix → Value) (hs hc : List (List Int × List Int)) (i : Ix) : List Value :=
  if i.1 = 0 then ptrs ls else if i.1 = 1 then col v 3 ls.length else if i.1 = 2 then col v 4 ls.length
  else if i.1 = 3 then ints (brk hs i.2) else if i.1 = 4 then ints (cnt hs i.2) else if i.1 = 5 then ints (brk hc i.2) else ints (cnt hc i.2)
variable {base : Nat}
structure LS (w : World) (base C : Nat) (vC : Value) (ls : List Nat) (v : Ix → Value) (hs hc : List (List Int × List Int)) : Prop where
  len : hs.length = ls.length
  len2 : hc.length = ls.length
  comp : LC w C vC ls
  fam : Fam w (fun k => k < base ∨ LF C vC k ∨ k ∈ ls) (act ls.length) ety v (cont ls v hs hc)
  cell : ∀ j (hj : j < ls.length), w.cell? ⟨ls[j], 1, none⟩ = some (v (5, j)) ∧ w.cell? ⟨ls[j], 0, none⟩ = some (v (6, j)) ∧ w.frozen? ⟨ls[j], 1, none⟩ = false ∧ w.frozen? ⟨ls[j], 0, none⟩ = false
  apart : ∀ l ∈ ls, ¬ LF C vC l
  nodup : ls.Nodup
  blk : ∀ l ∈ ls, ∃ c t, w.heap[l]? = some (.cells c t (0, 0))
  bs : base ≤ w.heap.size
  lo : ∀ k, (LF C vC k ∨ k ∈ ls) → base ≤ k
theorem LS.lt {w : World} {C : Nat} {vC : Value} {ls : List Nat} {v : Ix → Value} {hs hc : List (List Int × List Int)} (h : LS w base C vC ls v hs hc) : ∀ k, (LF C vC k ∨ k ∈ ls) → k < w.heap.size := by
  intro k hk
  rcases hk with (hk | hk) | hk
  · rw [hk]; exact h.comp.lt
  · exact row_lt h.comp.row hk
  · obtain ⟨j, hj, rfl⟩ := List.getElem_of_mem hk
    exact World.block_lt_of_cell? w ⟨ls[j], 1, none⟩ (h.cell j hj).1
theorem LS.lt2 {w : World} {C : Nat} {vC : Value} {ls : List Nat} {v : Ix → Value} {hs hc : List (List Int × List Int)} (h : LS w base C vC ls v hs hc) : ∀ k, (k < base ∨ LF C vC k ∨ k ∈ ls) → k < w.heap.size := by
  intro k hk
  rcases hk with hk | hk
  · exact Nat.lt_of_lt_of_le hk h.bs
  · exact h.lt k hk
/-- What a row of the state turns lies above base. -/
theorem LS.own_lo {w : World} {C : Nat} {vC : Value} {ls : List Nat} {v : Ix → Value} {hs hc : List (List Int × List Int)} (h : LS w base C vC ls v hs hc) (i : Ix) (hi : act ls.length i) : ∀ k, (v i).ownBlock = some k → base ≤ k := by
  intro k hk
  have := h.fam.out i k hi hk
  refine Nat.le_of_not_lt (fun hl => this (.inl hl))
theorem LS.drewN {w : World} {C n : Nat} {vC : Value} {ls : List Nat} {v : Ix → Value} {hs hc : List (List Int × List Int)} (h : LS w base C vC ls v hs hc) : LS (w.drewN n) base C vC ls v hs hc :=
  ⟨h.len, h.len2, h.comp.drewN, h.fam.turned ((Turned.refl (fun _ => False) w).drewN n) (fun _ hf => hf.elim), h.cell, h.apart, h.nodup, h.blk, h.bs, h.lo⟩
/-- Nothing of the state has turned. -/
theorem LS.keep {w w' : World} {C : Nat} {vC : Value} {ls : List Nat} {v : Ix → Value} {hs hc : List (List Int × List Int)} (h : LS w base C vC ls v hs hc) (ht : Below w.heap.size w w') : LS w' base C vC ls v hs hc := by
  have htt : Turned (fun _ => False) w w' := Turned.of_below ht
  refine ⟨h.len, h.len2, h.comp.turned htt (fun _ _ hf => hf), h.fam.turned htt (fun _ hf => hf.elim), fun j hj => ?_, h.apart, h.nodup, fun l hl => by obtain ⟨c, t, e⟩ := h.blk l hl; exact ⟨c, t, (ht.block l (h.lt l (.inr hl))).trans e⟩, Nat.le_trans h.bs ht.size, h.lo⟩
  have hlt := h.lt ls[j] (.inr (List.getElem_mem hj))
  have hb : w'.heap[ls[j]]? = w.heap[ls[j]]? := ht.block _ hlt
  obtain ⟨a, b, c, d⟩ := h.cell j hj
  exact ⟨(World.cell?_of_block (a := ⟨ls[j], 1, none⟩) hb).trans a, (World.cell?_of_block (a := ⟨ls[j], 0, none⟩) hb).trans b, (World.frozen?_of_block (a := ⟨ls[j], 1, none⟩) hb).trans c, (World.frozen?_of_block (a := ⟨ls[j], 0, none⟩) hb).trans d⟩
/-- The two rows of a loop and the law's two hold the same. -/
theorem LS.same {w : World} {C : Nat} {vC : Value} {ls : List Nat} {v : Ix → Value} {hs hc : List (List Int × List Int)} (h : LS w base C vC ls v hs hc) (j : Nat) (hj : j < ls.length) :
    (w.ownsRow 0 3 1 (v (3, j)) (brk hs j).length (ints (brk hs j)) ∧ w.ownsRow 0 3 1 (v (5, j)) (brk hc j).length (ints (brk hc j))) ∧
    (w.ownsRow 0 3 1 (v (4, j)) (cnt hs j).length (ints (cnt hs j)) ∧ w.ownsRow 0 3 1 (v (6, j)) (cnt hc j).length (ints (cnt hc j))) := by
  have e3 := h.fam.row (3, j) (act_row (by decide) (by decide) hj)
  have e5 := h.fam.row (5, j) (act_row (by decide) (by decide) hj)
  have e4 := h.fam.row (4, j) (act_row (by decide) (by decide) hj)
  have e6 := h.fam.row (6, j) (act_row (by decide) (by decide) hj)
  rw [show cont ls v hs hc (3, j) = ints (brk hs j) from rfl, ints_length] at e3
  rw [show cont ls v hs hc (5, j) = ints (brk hc j) from rfl, ints_length] at e5
  rw [show cont ls v hs hc (4, j) = ints (cnt hs j) from rfl, ints_length] at e4
  rw [show cont ls v hs hc (6, j) = ints (cnt hc j) from rfl, ints_length] at e6
  exact ⟨⟨e3, e5⟩, ⟨e4, e6⟩⟩
theorem nodup_inj {l : List Nat} (h : l.Nodup) {i j : Nat} (hi : i < l.length) (hj : j < l.length) (e : l[i] = l[j]) : i = j := by
  rcases Nat.lt_trichotomy i j with h1 | h1 | h1
  · exact absurd e (List.pairwise_iff_getElem.1 h i j hi hj h1)
  · exact h1
  · exact absurd e.symm (List.pairwise_iff_getElem.1 h j i hj hi h1)
def upd {β : Type} (v : Ix → β) (i : Ix) (x : β) : Ix → β := fun j => if j = i then x else v j
theorem upd_same {β : Type} (v : Ix → β) (i : Ix) (x : β) : upd v i x i = x := by unfold upd; rw [if_pos rfl]
theorem upd_other {β : Type} (v : Ix → β) {i j : Ix} (x : β) (h : j ≠ i) : upd v i x j = v j := by unfold upd; rw [if_neg h]
/-- A loop notes a step: its row k (cell o) anew. -/
theorem LS.note {w w5 : World} {C : Nat} {vC : Value} {ls : List Nat} {v : Ix → Value} {hs hc hc2 : List (List Int × List Int)} (h : LS w base C vC ls v hs hc) (j : Nat) (hj : j < ls.length) (k o : Nat) (hko : (k = 5 ∧ o = 1) ∨ (k = 6 ∧ o = 0)) (x : Value)
    (hl2 : hc2.length = ls.length) (ht : Turned (fun b => (v (k, j)).ownBlock = some b) w w5)
    (hrow : w5.ownsRow 0 3 1 x (cont ls (upd v (k, j) x) hs hc2 (k, j)).length (cont ls (upd v (k, j) x) hs hc2 (k, j)))
    (hat : ∀ b, x.ownBlock = some b → (v (k, j)).ownBlock = some b ∨ w.heap.size ≤ b)
    (hother : ∀ i, act ls.length i → i ≠ (k, j) → cont ls (upd v (k, j) x) hs hc2 i = cont ls v hs hc i) :
    LS (w5.setCell ⟨ls[j], o, none⟩ x) base C vC ls (upd v (k, j) x) hs hc2 := by
  have hact : act ls.length (k, j) := act_row (by omega) (by omega) hj
  have hety : ety (k, j) = 3 := by rcases hko with ⟨rfl, _⟩ | ⟨rfl, _⟩ <;> rfl
  have hin : ls[j] ∈ ls := List.getElem_mem hj
  have hout : ∀ b, (LF C vC b ∨ b ∈ ls) → (v (k, j)).ownBlock ≠ some b := fun b hb e => h.fam.out (k, j) b hact e (.inr hb)
  have hf5 : Fam w5 (fun k => k < base ∨ LF C vC k ∨ k ∈ ls) (act ls.length) ety (upd v (k, j) x) (cont ls (upd v (k, j) x) hs hc2) := by
    refine h.fam.grow (k, j) hact ht h.lt2 ?_ ?_ (fun i _ hi => upd_other v x hi) hother
    · rw [upd_same, hety]; exact hrow
    · rw [upd_same]; exact hat
  have hts : Turned (fun b => b = ls[j]) w5 (w5.setCell ⟨ls[j], o, none⟩ x) := Turned.setCell _ _ _ _ rfl
  have hc5 : LC w5 C vC ls := h.comp.turned ht (fun b hb => hout b (.inl hb))
  have hcell5 : ∀ i (hi : i < ls.length) o', w5.cell? ⟨ls[i], o', none⟩ = w.cell? ⟨ls[i], o', none⟩ ∧ w5.frozen? ⟨ls[i], o', none⟩ = w.frozen? ⟨ls[i], o', none⟩ := fun i hi o' => by
    have hb : w5.heap[ls[i]]? = w.heap[ls[i]]? := ht.block _ (h.lt _ (.inr (List.getElem_mem hi))) (hout _ (.inr (List.getElem_mem hi)))
    exact ⟨World.cell?_of_block (a := ⟨ls[i], o', none⟩) hb, World.frozen?_of_block (a := ⟨ls[i], o', none⟩) hb⟩
  refine ⟨h.len, hl2, hc5.turned hts (fun b hb e => h.apart _ hin (e ▸ hb)), hf5.turned hts (fun b hb => .inl (.inr (.inr (by rw [hb]; exact hin)))), fun i hi => ?_, h.apart, h.nodup, fun l hl => ?_, Nat.le_trans h.bs (by have := ht.size; simpa using this), h.lo⟩
  case refine_2 =>
    obtain ⟨c, t, e⟩ := h.blk l hl
    have e5 : w5.heap[l]? = some (.cells c t (0, 0)) := (ht.block _ (h.lt _ (.inr hl)) (hout _ (.inr hl))).trans e
    by_cases hlj : l = ls[j]
    · subst hlj; exact ⟨_, _, heap_setCell_same w5 ls[j] o c t x e5⟩
    · exact ⟨_, _, (heap_setCell_other _ _ _ _ hlj).trans e5⟩
  obtain ⟨c1, c2, c3, c4⟩ := h.cell i hi
  by_cases hij : i = j
  · subst hij
    rcases hko with ⟨rfl, rfl⟩ | ⟨rfl, rfl⟩
    · refine ⟨?_, ?_, ?_, ?_⟩
      · rw [upd_same]; exact World.cell?_setCell_same _ _ _ ((hcell5 i hi 1).1.trans c1)
      · rw [upd_other v x (by simp), World.cell?_setCell_other _ _ _ _ (by simp)]; exact (hcell5 i hi 0).1.trans c2
      · rw [World.frozen?_setCell]; exact (hcell5 i hi 1).2.trans c3
      · rw [World.frozen?_setCell]; exact (hcell5 i hi 0).2.trans c4
    · refine ⟨?_, ?_, ?_, ?_⟩
      · rw [upd_other v x (by simp), World.cell?_setCell_other _ _ _ _ (by simp)]; exact (hcell5 i hi 1).1.trans c1
      · rw [upd_same]; exact World.cell?_setCell_same _ _ _ ((hcell5 i hi 0).1.trans c2)
      · rw [World.frozen?_setCell]; exact (hcell5 i hi 1).2.trans c3
      · rw [World.frozen?_setCell]; exact (hcell5 i hi 0).2.trans c4
  · have hne : ls[i] ≠ ls[j] := fun e => hij (nodup_inj h.nodup hi hj e)
    have hn5 : ((5, i) : Ix) ≠ (k, j) := fun e => hij (congrArg Prod.snd e)
    have hn6 : ((6, i) : Ix) ≠ (k, j) := fun e => hij (congrArg Prod.snd e)
    refine ⟨?_, ?_, ?_, ?_⟩
    · rw [upd_other v x hn5, World.cell?_setCell_other _ _ _ _ (fun e => hne (congrArg Addr.block e).symm)]; exact (hcell5 i hi 1).1.trans c1
    · rw [upd_other v x hn6, World.cell?_setCell_other _ _ _ _ (fun e => hne (congrArg Addr.block e).symm)]; exact (hcell5 i hi 0).1.trans c2
    · rw [World.frozen?_setCell]; exact (hcell5 i hi 1).2.trans c3
    · rw [World.frozen?_setCell]; exact (hcell5 i hi 0).2.trans c4
theorem col_upd (v : Ix → Value) (k n j : Nat) (x : Value) (_hj : j < n) : col (upd v (k, j) x) k n = (col v k n).set j x := by
  refine List.ext_getElem (by simp [col]) (fun i h1 h2 => ?_)
  have hi : i < n := by simpa [col] using h1
  rw [List.getElem_set]
  simp only [col, List.getElem_map, List.getElem_range]
  by_cases hij : j = i
  · subst hij; rw [if_pos rfl, upd_same]
  · rw [if_neg hij, upd_other v x (fun e => hij (congrArg Prod.snd e).symm)]
/-- The law notes a step: its row k anew, and the row's place in the outer row t. -/
theorem LS.law {w w5 : World} {C : Nat} {vC : Value} {ls : List Nat} {v : Ix → Value} {hs hc hs2 : List (List Int × List Int)} (h : LS w base C vC ls v hs hc) (j : Nat) (hj : j < ls.length) (k t g n cap : Nat) (hkt : (k = 3 ∧ t = 1) ∨ (k = 4 ∧ t = 2)) (x : Value)
    (hg : v (t, 0) = .slice (some ⟨g, 0, none⟩) n cap) (hl2 : hs2.length = ls.length) (ht : Turned (fun b => (v (k, j)).ownBlock = some b) w w5)
    (hrow : w5.ownsRow 0 3 1 x (cont ls (upd v (k, j) x) hs2 hc (k, j)).length (cont ls (upd v (k, j) x) hs2 hc (k, j)))
    (hat : ∀ b, x.ownBlock = some b → (v (k, j)).ownBlock = some b ∨ w.heap.size ≤ b)
    (hother : ∀ i, act ls.length i → i ≠ (k, j) → i ≠ (t, 0) → cont ls (upd v (k, j) x) hs2 hc i = cont ls v hs hc i) :
    LS (w5.setCell ⟨g, j, none⟩ x) base C vC ls (upd v (k, j) x) hs2 hc := by
  have hact : act ls.length (k, j) := act_row (by omega) (by omega) hj
  have hat0 : act ls.length (t, 0) := act_top (by omega)
  have hety : ety (k, j) = 3 := by rcases hkt with ⟨rfl, _⟩ | ⟨rfl, _⟩ <;> rfl
  have hkt2 : ((t, 0) : Ix) ≠ (k, j) := fun e => by have := congrArg Prod.fst e; simp at this; omega
  have hout : ∀ i, act ls.length i → ∀ b, (LF C vC b ∨ b ∈ ls) → (v i).ownBlock ≠ some b := fun i hi b hb e => h.fam.out i b hi e (.inr hb)
  have hf5 : Fam w5 (fun k => k < base ∨ LF C vC k ∨ k ∈ ls) (act ls.length) ety (upd v (k, j) x) (fun i => if i = (t, 0) then cont ls v hs hc (t, 0) else cont ls (upd v (k, j) x) hs2 hc i) := by
    refine h.fam.grow (k, j) hact ht h.lt2 ?_ ?_ (fun i _ hi => upd_other v x hi) (fun i hi hne => ?_)
    · rw [upd_same, hety]; simp only [if_neg (Ne.symm hkt2)]; exact hrow
    · rw [upd_same]; exact hat
    · by_cases hit : i = (t, 0)
      · subst hit; simp only [if_pos rfl]; rfl
      · simp only [if_neg hit]; exact hother i hi hne hit
  have hgo : (upd v (k, j) x) (t, 0) = .slice (some ⟨g, 0, none⟩) n cap := (upd_other v x hkt2).trans hg
  obtain ⟨hf6, ht6⟩ := hf5.set (xs2 := cont ls (upd v (k, j) x) hs2 hc) (t, 0) hat0 g n cap hgo j x (fun l _ hl => by simp only [if_neg hl]) (by
    simp only [if_pos rfl]
    rcases hkt with ⟨rfl, rfl⟩ | ⟨rfl, rfl⟩
    · exact col_upd v 3 ls.length j x hj
    · exact col_upd v 4 ls.length j x hj)
  have hg0 : ∀ b, (LF C vC b ∨ b ∈ ls) → b ≠ g := fun b hb e => hout (t, 0) hat0 b hb (by rw [hg, e]; rfl)
  have hts : Turned (fun b => b = g) w5 (w5.setCell ⟨g, j, none⟩ x) := Turned.setCell _ _ _ _ rfl
  have hc5 : LC w5 C vC ls := h.comp.turned ht (fun b hb => hout (k, j) hact b (.inl hb))
  refine ⟨hl2, h.len2, hc5.turned hts (fun b hb => hg0 b (.inl hb)), hf6, fun i hi => ?_, h.apart, h.nodup, fun l hl => by
    obtain ⟨c, t, e⟩ := h.blk l hl
    exact ⟨_, _, ((heap_setCell_other _ _ _ _ (hg0 _ (.inr hl))).trans (ht.block _ (h.lt _ (.inr hl)) (hout (k, j) hact _ (.inr hl)))).trans e⟩, Nat.le_trans h.bs (by have := ht.size; simpa using this), h.lo⟩
  have hin : ls[i] ∈ ls := List.getElem_mem hi
  have hb : (w5.setCell ⟨g, j, none⟩ x).heap[ls[i]]? = w.heap[ls[i]]? := (heap_setCell_other _ _ _ _ (hg0 _ (.inr hin))).trans (ht.block _ (h.lt _ (.inr hin)) (hout (k, j) hact _ (.inr hin)))
  obtain ⟨c1, c2, c3, c4⟩ := h.cell i hi
  have hn5 : ((5, i) : Ix) ≠ (k, j) := fun e => by have := congrArg Prod.fst e; simp at this; omega
  have hn6 : ((6, i) : Ix) ≠ (k, j) := fun e => by have := congrArg Prod.fst e; simp at this; omega
  rw [upd_other v x hn5, upd_other v x hn6]
  exact ⟨(World.cell?_of_block (a := ⟨ls[i], 1, none⟩) hb).trans c1, (World.cell?_of_block (a := ⟨ls[i], 0, none⟩) hb).trans c2, (World.frozen?_of_block (a := ⟨ls[i], 1, none⟩) hb).trans c3, (World.frozen?_of_block (a := ⟨ls[i], 0, none⟩) hb).trans c4⟩
theorem fam_retake {ι : Type} {w : World} {S S' : Nat → Prop} {A A' : ι → Prop} {e : ι → Nat} {v v2 : ι → Value} {xs xs2 : ι → List Value} (h : Fam w S A e v xs) (hA : ∀ i, A' i → A i) (hS : ∀ k, S' k → S k) (hb : ∀ i, A' i → (v2 i).ownBlock = (v i).ownBlock)
    (hr : ∀ i, A' i → w.ownsRow 0 (e i) 1 (v2 i) (xs2 i).length (xs2 i)) : Fam w S' A' e v2 xs2 :=
  ⟨hr, fun i j k hi hj => by rw [hb i hi, hb j hj]; exact h.sep i j k (hA i hi) (hA j hj), fun i k hi hk hs => by rw [hb i hi] at hk; exact h.out i k (hA i hi) hk (hS k hs)⟩
/-- The last loop is left. -/
theorem LS.pop {w w1 : World} {C : Nat} {vC vC' : Value} {ls : List Nat} {l : Nat} {v v2 : Ix → Value} {hs hc : List (List Int × List Int)} (h : LS w base C vC (ls ++ [l]) v hs hc) (ht : Turned (LF C vC) w w1) (hc1 : LC w1 C vC' ls) (hown : vC'.ownBlock = vC.ownBlock)
    (g c : Nat → Nat) (hv : ∀ t, t ≤ 2 → v (t, 0) = .slice (some ⟨g t, 0, none⟩) (ls.length + 1) (c t)) (hv2 : ∀ t, t ≤ 2 → v2 (t, 0) = .slice (some ⟨g t, 0, none⟩) ls.length (c t)) (hvo : ∀ k j, 3 ≤ k → v2 (k, j) = v (k, j)) :
    LS w1 base C vC' ls v2 (hs.take ls.length) (hc.take ls.length) := by
  have hlen : (ls ++ [l]).length = ls.length + 1 := by simp
  have hLF : ∀ k, LF C vC' k ↔ LF C vC k := fun k => by unfold LF; rw [hown]
  have hf := h.fam.turned ht (fun k hk => .inl (.inr (.inl hk)))
  have hA : ∀ i, act ls.length i → act (ls ++ [l]).length i := fun i hi => by
    rw [hlen]
    rcases hi with h1 | ⟨h1, h2, h3⟩
    · exact .inl h1
    · exact .inr ⟨h1, h2, by omega⟩
  have hbk : ∀ j, j < ls.length → brk (hs.take ls.length) j = brk hs j ∧ cnt (hs.take ls.length) j = cnt hs j ∧ brk (hc.take ls.length) j = brk hc j ∧ cnt (hc.take ls.length) j = cnt hc j := fun j hj => by
    simp only [brk, cnt, List.getElem?_take, if_pos hj, and_self]
  have hcolt : ∀ k, 3 ≤ k → (col v k (ls ++ [l]).length).take ls.length = col v2 k ls.length := fun k hk => by
    rw [hlen, col_succ, List.take_left' (col_length v k ls.length)]
    exact (col_congr (fun j _ => hvo k j hk)).symm
  have hl1 := h.len
  have hl2 := h.len2
  rw [hlen] at hl1 hl2
  refine ⟨by simp; omega, by simp; omega, hc1, fam_retake hf hA (fun k hk => ?_) (fun i hi => ?_) (fun i hi => ?_), fun j hj => ?_, fun x hx hxf => h.apart x (by simp [hx]) ((hLF x).1 hxf), (List.nodup_append.1 h.nodup).1, fun x hx => by
    have hin : x ∈ ls ++ [l] := by simp [hx]
    obtain ⟨c, t, e⟩ := h.blk x hin
    exact ⟨_, _, (ht.block _ (h.lt _ (.inr hin)) (h.apart _ hin)).trans e⟩, Nat.le_trans h.bs ht.size, fun k hk => h.lo k (by
      rcases hk with hk | hk
      · exact .inl ((hLF k).1 hk)
      · exact .inr (by simp [hk]))⟩
  · rcases hk with hk | hk | hk
    · exact .inl hk
    · exact .inr (.inl ((hLF k).1 hk))
    · exact .inr (.inr (by simp [hk]))
  · rcases hi with ⟨h1, h2⟩ | ⟨h1, _, _⟩
    · obtain ⟨t, j⟩ := i
      simp only at h1 h2
      subst h2
      rw [hv t h1, hv2 t h1]; rfl
    · obtain ⟨k, j⟩ := i
      rw [hvo k j h1]
  · rcases hi with ⟨h1, h2⟩ | ⟨h1, h2, h3⟩
    · obtain ⟨t, j⟩ := i
      simp only at h1 h2
      subst h2
      have hr := hf.row (t, 0) (act_top h1)
      have hxl : (cont (ls ++ [l]) v hs hc (t, 0)).length = ls.length + 1 := by
        have : t = 0 ∨ t = 1 ∨ t = 2 := by omega
        rcases this with rfl | rfl | rfl
        · show (ptrs (ls ++ [l])).length = _; rw [ptrs_length, hlen]
        · show (col v 3 (ls ++ [l]).length).length = _; rw [col_length, hlen]
        · show (col v 4 (ls ++ [l]).length).length = _; rw [col_length, hlen]
      have hxt : (cont (ls ++ [l]) v hs hc (t, 0)).take ls.length = cont ls v2 (hs.take ls.length) (hc.take ls.length) (t, 0) := by
        have : t = 0 ∨ t = 1 ∨ t = 2 := by omega
        rcases this with rfl | rfl | rfl
        · show (ptrs (ls ++ [l])).take ls.length = ptrs ls; rw [ptrs_append, List.take_left' (ptrs_length ls)]
        · exact hcolt 3 (by decide)
        · exact hcolt 4 (by decide)
      rw [hv t h1, hxl] at hr
      have hr2 := row_take hr (n := ls.length) (by omega)
      rw [Nat.mul_one, hxt] at hr2
      rw [hv2 t h1]
      have hle : (cont ls v2 (hs.take ls.length) (hc.take ls.length) (t, 0)).length = ls.length := by rw [← hxt, List.length_take, hxl]; omega
      rw [hle]
      exact hr2
    · obtain ⟨k, j⟩ := i
      simp only at h1 h2 h3
      have hr := hf.row (k, j) (act_row h1 h2 (by rw [hlen]; omega))
      obtain ⟨b1, b2, b3, b4⟩ := hbk j h3
      have hx : cont ls v2 (hs.take ls.length) (hc.take ls.length) (k, j) = cont (ls ++ [l]) v hs hc (k, j) := by
        have : k = 3 ∨ k = 4 ∨ k = 5 ∨ k = 6 := by omega
        rcases this with rfl | rfl | rfl | rfl
        · exact congrArg ints b1
        · exact congrArg ints b2
        · exact congrArg ints b3
        · exact congrArg ints b4
      rw [hvo k j h1, hx]
      exact hr
  · have hj' : j < (ls ++ [l]).length := by rw [hlen]; omega
    have hcj := h.cell j hj'
    rw [List.getElem_append_left hj] at hcj
    have hin : ls[j] ∈ ls ++ [l] := by simp
    have hb : w1.heap[ls[j]]? = w.heap[ls[j]]? := ht.block _ (h.lt _ (.inr hin)) (h.apart _ hin)
    obtain ⟨c1, c2, c3, c4⟩ := hcj
    rw [hvo 5 j (by decide), hvo 6 j (by decide)]
    exact ⟨(World.cell?_of_block (a := ⟨ls[j], 1, none⟩) hb).trans c1, (World.cell?_of_block (a := ⟨ls[j], 0, none⟩) hb).trans c2, (World.frozen?_of_block (a := ⟨ls[j], 1, none⟩) hb).trans c3, (World.frozen?_of_block (a := ⟨ls[j], 0, none⟩) hb).trans c4⟩
/-- What the state has behind a new loop. -/
def pushV (v : Ix → Value) (n : Nat) (x0 x1 x2 x3 x4 : Value) (i : Ix) : Value :=
  if i = (0, 0) then x0 else if i = (1, 0) then x1 else if i = (2, 0) then x2 else if i = (3, n) then x3 else if i = (4, n) then x4 else if i = (5, n) ∨ i = (6, n) then .slice none 0 0 else v i
theorem row_nil (w : World) (e : Nat) : w.ownsRow 0 e 1 (.slice none 0 0) 0 [] := ⟨rfl, .inl ⟨rfl, rfl⟩⟩
theorem getD_append_left {α : Type} (l : List α) (a : α) (j : Nat) (h : j < l.length) : (l ++ [a])[j]? = l[j]? := List.getElem?_append_left h
theorem LS.push {w w1 w3 w4 w5 w6 w7 : World} {C l : Nat} {vC vC' x0 x1 x2 x3 x4 : Value} {ls : List Nat} {v : Ix → Value} {hs hc : List (List Int × List Int)} (h : LS w base C vC ls v hs hc) (hl : l = w.heap.size)
    (hc1 : LC w1 C vC' (ls ++ [l])) (ht1 : Turned (LF C vC) w w1) (hat1 : ∀ k, vC'.ownBlock = some k → vC.ownBlock = some k ∨ w.heap.size < k) (hnew : w1.heap[l]? = some (.cells #[.slice none 0 0, .slice none 0 0] 33 (0, 0)))
    (ht3 : Turned (fun k => (v (0, 0)).ownBlock = some k) w1 w3) (h3 : w3.ownsRow 0 27 1 x0 (ls.length + 1) (ptrs ls ++ [.pointer (some ⟨l, 0, none⟩)])) (a3 : ∀ k, x0.ownBlock = some k → (v (0, 0)).ownBlock = some k ∨ w1.heap.size ≤ k)
    (ht4 : Turned (fun _ => False) w3 w4) (h4 : w4.ownsRow 0 3 1 x3 0 []) (a4 : ∀ k, x3.ownBlock = some k → w3.heap.size ≤ k)
    (ht5 : Turned (fun k => (v (1, 0)).ownBlock = some k) w4 w5) (h5 : w5.ownsRow 0 31 1 x1 (ls.length + 1) (col v 3 ls.length ++ [x3])) (a5 : ∀ k, x1.ownBlock = some k → (v (1, 0)).ownBlock = some k ∨ w4.heap.size ≤ k)
    (ht6 : Turned (fun _ => False) w5 w6) (h6 : w6.ownsRow 0 3 1 x4 0 []) (a6 : ∀ k, x4.ownBlock = some k → w5.heap.size ≤ k)
    (ht7 : Turned (fun k => (v (2, 0)).ownBlock = some k) w6 w7) (h7 : w7.ownsRow 0 31 1 x2 (ls.length + 1) (col v 4 ls.length ++ [x4])) (a7 : ∀ k, x2.ownBlock = some k → (v (2, 0)).ownBlock = some k ∨ w6.heap.size ≤ k) :
    LS w7 base C vC' (ls ++ [l]) (pushV v ls.length x0 x1 x2 x3 x4) (hs ++ [([], [])]) (hc ++ [([], [])]) ∧ Below base w w7 := by
  obtain ⟨n, hn⟩ : ∃ n, n = ls.length := ⟨_, rfl⟩
  have hlen : (ls ++ [l]).length = n + 1 := by simp [hn]
  have hlw1 : l < w1.heap.size := (Array.getElem?_eq_some_iff.1 hnew).1
  rw [← hn] at h3 h5 h7 ⊢
  obtain ⟨S, hS⟩ : ∃ S : Nat → Prop, S = fun k => k < base ∨ LF C vC' k ∨ k ∈ ls ++ [l] := ⟨_, rfl⟩
  have hSL : ∀ k, LF C vC' k → S k := fun k hk => by rw [hS]; exact .inr (.inl hk)
  have hSl : ∀ k, k ∈ ls ++ [l] → S k := fun k hk => by rw [hS]; exact .inr (.inr hk)
  have hS1 : ∀ k, S k → k < w1.heap.size := fun k hk => by
    rw [hS] at hk
    rcases hk with hk | (hk | hk) | hk
    · exact Nat.lt_of_lt_of_le hk (Nat.le_trans h.bs ht1.size)
    · rw [hk]; exact hc1.lt
    · exact row_lt hc1.row hk
    · rcases List.mem_append.1 hk with hk | hk
      · exact Nat.lt_of_lt_of_le (h.lt k (.inr hk)) ht1.size
      · simp only [List.mem_singleton] at hk; rw [hk]; exact hlw1
  have hn2 : act ls.length = act n := by rw [hn]
  have hfam := h.fam
  rw [hn2] at hfam
  have f1 : Fam w1 S (act n) ety v (cont ls v hs hc) := by
    refine ((hfam.more (S' := fun k => (k < base ∨ LF C vC k ∨ k ∈ ls) ∨ S k) (fun k hk => ?_)).turned ht1 (fun k hk => .inl (.inl (.inr (.inl hk))))).less (fun k hk => .inr hk)
    rcases hk with hk | hk
    · exact .inl hk
    · rw [hS] at hk
      rcases hk with hk | (hk | hk) | hk
      · exact .inl (.inl hk)
      · exact .inl (.inr (.inl (.inl hk)))
      · rcases hat1 k hk with hk | hk
        · exact .inl (.inr (.inl (.inr hk)))
        · exact .inr (Nat.le_of_lt hk)
      · rcases List.mem_append.1 hk with hk | hk
        · exact .inl (.inr (.inr hk))
        · simp only [List.mem_singleton] at hk; exact .inr (by rw [hk, hl]; exact Nat.le_refl _)
  have at0 : ∀ t, t ≤ 2 → act n (t, 0) := fun t ht => act_top ht
  have ho : ∀ t, t ≤ 2 → ∀ k, S k → (v (t, 0)).ownBlock ≠ some k := fun t ht k hk e => f1.out (t, 0) k (at0 t ht) e hk
  have hS3 : ∀ k, S k → k < w3.heap.size := fun k hk => Nat.lt_of_lt_of_le (hS1 k hk) ht3.size
  have hS4 : ∀ k, S k → k < w4.heap.size := fun k hk => Nat.lt_of_lt_of_le (hS3 k hk) ht4.size
  have hS5 : ∀ k, S k → k < w5.heap.size := fun k hk => Nat.lt_of_lt_of_le (hS4 k hk) ht5.size
  have hS6 : ∀ k, S k → k < w6.heap.size := fun k hk => Nat.lt_of_lt_of_le (hS5 k hk) ht6.size
  have hS7 : ∀ k, S k → k < w7.heap.size := fun k hk => Nat.lt_of_lt_of_le (hS6 k hk) ht7.size
  have hc3 := hc1.turned ht3 (fun k hk => ho 0 (by decide) k (hSL k hk))
  have hc4 := hc3.turned ht4 (fun k hk hf => hf)
  have hc5 := hc4.turned ht5 (fun k hk => ho 1 (by decide) k (hSL k hk))
  have hc6 := hc5.turned ht6 (fun k hk hf => hf)
  have hc7 := hc6.turned ht7 (fun k hk => ho 2 (by decide) k (hSL k hk))
  have hb1 : ∀ k, S k → w7.heap[k]? = w1.heap[k]? := fun k hk =>
    ((((ht7.block k (hS6 k hk) (ho 2 (by decide) k hk)).trans (ht6.block k (hS5 k hk) (fun hf => hf))).trans (ht5.block k (hS4 k hk) (ho 1 (by decide) k hk))).trans (ht4.block k (hS3 k hk) (fun hf => hf))).trans (ht3.block k (hS1 k hk) (ho 0 (by decide) k hk))
  have hb0 : ∀ k, k ∈ ls → w7.heap[k]? = w.heap[k]? := fun k hk => (hb1 k (hSl k (by simp [hk]))).trans (ht1.block k (h.lt k (.inr hk)) (h.apart k hk))
  have hbl : w7.heap[l]? = some (.cells #[.slice none 0 0, .slice none 0 0] 33 (0, 0)) := (hb1 l (hSl l (by simp))).trans hnew
  have g3 : Fam w3 S (act n) ety (upd v (0, 0) x0) (upd (cont ls v hs hc) (0, 0) (ptrs ls ++ [.pointer (some ⟨l, 0, none⟩)])) := by
    refine f1.grow (0, 0) (at0 0 (by decide)) ht3 hS1 ?_ ?_ (fun j _ hj => upd_other _ _ hj) (fun j _ hj => upd_other _ _ hj)
    · rw [upd_same, upd_same, List.length_append, ptrs_length, ← hn]; exact h3
    · rw [upd_same]; exact a3
  have g4 : Fam w4 S (fun i => act n i ∨ i = (3, n)) ety (upd (upd v (0, 0) x0) (3, n) x3) (upd (upd (cont ls v hs hc) (0, 0) (ptrs ls ++ [.pointer (some ⟨l, 0, none⟩)])) (3, n) []) := by
    refine g3.add (3, n) ht4 hS3 (fun j hj => hj) ?_ ?_ (fun j _ hj => upd_other _ _ hj) (fun j _ hj => upd_other _ _ hj)
    · rw [upd_same, upd_same]; exact h4
    · rw [upd_same]; exact a4
  have e10 : upd (upd v (0, 0) x0) (3, n) x3 (1, 0) = v (1, 0) := by rw [upd_other _ _ (by simp), upd_other _ _ (by simp)]
  have g5 : Fam w5 S (fun i => act n i ∨ i = (3, n)) ety (upd (upd (upd v (0, 0) x0) (3, n) x3) (1, 0) x1) (upd (upd (upd (cont ls v hs hc) (0, 0) (ptrs ls ++ [.pointer (some ⟨l, 0, none⟩)])) (3, n) []) (1, 0) (col v 3 n ++ [x3])) := by
    refine g4.grow (1, 0) (.inl (at0 1 (by decide))) (by rw [e10]; exact ht5) hS4 ?_ ?_ (fun j _ hj => upd_other _ _ hj) (fun j _ hj => upd_other _ _ hj)
    · rw [upd_same, upd_same, List.length_append, col_length]; exact h5
    · rw [upd_same, e10]; exact a5
  have g6 : Fam w6 S (fun i => (act n i ∨ i = (3, n)) ∨ i = (4, n)) ety (upd (upd (upd (upd v (0, 0) x0) (3, n) x3) (1, 0) x1) (4, n) x4) (upd (upd (upd (upd (cont ls v hs hc) (0, 0) (ptrs ls ++ [.pointer (some ⟨l, 0, none⟩)])) (3, n) []) (1, 0) (col v 3 n ++ [x3])) (4, n) []) := by
    refine g5.add (4, n) ht6 hS5 (fun j hj => hj) ?_ ?_ (fun j _ hj => upd_other _ _ hj) (fun j _ hj => upd_other _ _ hj)
    · rw [upd_same, upd_same]; exact h6
    · rw [upd_same]; exact a6
  have e20 : upd (upd (upd (upd v (0, 0) x0) (3, n) x3) (1, 0) x1) (4, n) x4 (2, 0) = v (2, 0) := by rw [upd_other _ _ (by simp), upd_other _ _ (by simp), upd_other _ _ (by simp), upd_other _ _ (by simp)]
  have g7 := g6.grow (v2 := upd (upd (upd (upd (upd v (0, 0) x0) (3, n) x3) (1, 0) x1) (4, n) x4) (2, 0) x2) (xs2 := upd (upd (upd (upd (upd (cont ls v hs hc) (0, 0) (ptrs ls ++ [.pointer (some ⟨l, 0, none⟩)])) (3, n) []) (1, 0) (col v 3 n ++ [x3])) (4, n) []) (2, 0) (col v 4 n ++ [x4]))
    (2, 0) (.inl (.inl (at0 2 (by decide)))) (by rw [e20]; exact ht7) hS6
    (by rw [upd_same, upd_same, List.length_append, col_length]; exact h7) (by rw [upd_same, e20]; exact a7) (fun j _ hj => upd_other _ _ hj) (fun j _ hj => upd_other _ _ hj)
  have g8 := g7.add (v2 := upd (upd (upd (upd (upd (upd v (0, 0) x0) (3, n) x3) (1, 0) x1) (4, n) x4) (2, 0) x2) (5, n) (.slice none 0 0)) (xs2 := upd (upd (upd (upd (upd (upd (cont ls v hs hc) (0, 0) (ptrs ls ++ [.pointer (some ⟨l, 0, none⟩)])) (3, n) []) (1, 0) (col v 3 n ++ [x3])) (4, n) []) (2, 0) (col v 4 n ++ [x4])) (5, n) [])
    (A' := fun i => ((act n i ∨ i = (3, n)) ∨ i = (4, n)) ∨ i = (5, n)) (5, n) (Turned.refl _ w7) hS7 (fun j hj => hj) (by rw [upd_same, upd_same]; exact row_nil w7 _) (by rw [upd_same]; intro k hk; simp [Value.ownBlock] at hk) (fun j _ hj => upd_other _ _ hj) (fun j _ hj => upd_other _ _ hj)
  have g9 := g8.add (v2 := upd (upd (upd (upd (upd (upd (upd v (0, 0) x0) (3, n) x3) (1, 0) x1) (4, n) x4) (2, 0) x2) (5, n) (.slice none 0 0)) (6, n) (.slice none 0 0)) (xs2 := upd (upd (upd (upd (upd (upd (upd (cont ls v hs hc) (0, 0) (ptrs ls ++ [.pointer (some ⟨l, 0, none⟩)])) (3, n) []) (1, 0) (col v 3 n ++ [x3])) (4, n) []) (2, 0) (col v 4 n ++ [x4])) (5, n) []) (6, n) [])
    (A' := fun i => (((act n i ∨ i = (3, n)) ∨ i = (4, n)) ∨ i = (5, n)) ∨ i = (6, n)) (6, n) (Turned.refl _ w7) hS7 (fun j hj => hj) (by rw [upd_same, upd_same]; exact row_nil w7 _) (by rw [upd_same]; intro k hk; simp [Value.ownBlock] at hk) (fun j _ hj => upd_other _ _ hj) (fun j _ hj => upd_other _ _ hj)
  have hl1 : hs.length = n := by rw [hn]; exact h.len
  have hl2 : hc.length = n := by rw [hn]; exact h.len2
  have hsplit : ∀ i, act (n + 1) i → (i = (0, 0) ∨ i = (1, 0) ∨ i = (2, 0)) ∨ (∃ k j, i = (k, j) ∧ (k = 3 ∨ k = 4 ∨ k = 5 ∨ k = 6) ∧ j < n) ∨ (i = (3, n) ∨ i = (4, n) ∨ i = (5, n) ∨ i = (6, n)) := by
    rintro ⟨k, j⟩ (⟨q1, q2⟩ | ⟨q1, q2, q3⟩)
    · simp only at q1 q2
      subst q2
      refine .inl ?_
      have : k = 0 ∨ k = 1 ∨ k = 2 := by omega
      rcases this with rfl | rfl | rfl <;> simp
    · simp only at q1 q2 q3
      have : k = 3 ∨ k = 4 ∨ k = 5 ∨ k = 6 := by omega
      by_cases hj : j < n
      · exact .inr (.inl ⟨k, j, rfl, this, hj⟩)
      · obtain rfl : j = n := by omega
        refine .inr (.inr ?_)
        rcases this with rfl | rfl | rfl | rfl <;> simp
  have hpv : ∀ k j, 3 ≤ k → j < n → pushV v n x0 x1 x2 x3 x4 (k, j) = v (k, j) := fun k j hk hj => by
    unfold pushV
    rw [if_neg (by simp; omega), if_neg (by simp; omega), if_neg (by simp; omega), if_neg (by simp; omega), if_neg (by simp; omega), if_neg (by simp; omega)]
  have hcol : ∀ k x, (k = 3 ∧ x = x3) ∨ (k = 4 ∧ x = x4) → col (pushV v n x0 x1 x2 x3 x4) k (n + 1) = col v k n ++ [x] := fun k x hk => by
    rw [col_succ, col_congr (fun j hj => hpv k j (by omega) hj)]
    rcases hk with ⟨rfl, rfl⟩ | ⟨rfl, rfl⟩ <;> simp [pushV]
  have hfin : Fam w7 S (act (n + 1)) ety (pushV v n x0 x1 x2 x3 x4) (cont (ls ++ [l]) (pushV v n x0 x1 x2 x3 x4) (hs ++ [([], [])]) (hc ++ [([], [])])) := by
    refine (g9.drop (A' := act (n + 1)) (fun i hi => ?_)).congr (fun i hi => ?_) (fun i hi => ?_)
    · rcases hsplit i hi with q | ⟨k, j, rfl, q, hj⟩ | q
      · refine .inl (.inl (.inl (.inl ?_)))
        rcases q with rfl | rfl | rfl
        · exact at0 0 (by decide)
        · exact at0 1 (by decide)
        · exact at0 2 (by decide)
      · exact .inl (.inl (.inl (.inl (act_row (by omega) (by omega) hj))))
      · rcases q with rfl | rfl | rfl | rfl <;> simp
    · rcases hsplit i hi with q | ⟨k, j, rfl, q, hj⟩ | q
      · rcases q with rfl | rfl | rfl <;> simp [pushV, upd]
      · rw [hpv k j (by omega) hj]
        simp only [upd]
        rw [if_neg (by simp; omega), if_neg (by simp; omega), if_neg (by simp; omega), if_neg (by simp; omega), if_neg (by simp; omega), if_neg (by simp; omega), if_neg (by simp; omega)]
      · rcases q with rfl | rfl | rfl | rfl <;> simp [pushV, upd]
    · rcases hsplit i hi with q | ⟨k, j, rfl, q, hj⟩ | q
      · rcases q with rfl | rfl | rfl
        · show ptrs (ls ++ [l]) = _
          rw [ptrs_append]; simp [upd]; rfl
        · show col _ 3 (ls ++ [l]).length = _
          rw [hlen, hcol 3 x3 (.inl ⟨rfl, rfl⟩)]; simp [upd]
        · show col _ 4 (ls ++ [l]).length = _
          rw [hlen, hcol 4 x4 (.inr ⟨rfl, rfl⟩)]; simp [upd]
      · simp only [upd]
        rw [if_neg (by simp; omega), if_neg (by simp; omega), if_neg (by simp; omega), if_neg (by simp; omega), if_neg (by simp; omega), if_neg (by simp; omega), if_neg (by simp; omega)]
        have q1 : (hs ++ [([], [])])[j]? = hs[j]? := List.getElem?_append_left (by omega)
        have q2 : (hc ++ [([], [])])[j]? = hc[j]? := List.getElem?_append_left (by omega)
        rcases q with rfl | rfl | rfl | rfl <;> simp [cont, brk, cnt, q1, q2]
      · have q1 : (hs ++ [([], [])])[n]? = some ([], []) := by rw [← hl1]; simp
        have q2 : (hc ++ [([], [])])[n]? = some ([], []) := by rw [← hl2]; simp
        rcases q with rfl | rfl | rfl | rfl <;> simp [cont, brk, cnt, q1, q2, upd, ints]
  rw [hS] at hfin
  have lo0 : ∀ t, t ≤ 2 → ∀ k, (v (t, 0)).ownBlock = some k → base ≤ k := fun t ht => h.own_lo (t, 0) (act_top ht)
  have z1 := Nat.le_trans h.bs ht1.size
  have z3 := Nat.le_trans z1 ht3.size
  have z4 := Nat.le_trans z3 ht4.size
  have z5 := Nat.le_trans z4 ht5.size
  have z6 := Nat.le_trans z5 ht6.size
  refine ⟨?_, (ht1.below h.bs (fun k hk => h.lo k (.inl hk))).trans ((ht3.below z1 (lo0 0 (by decide))).trans ((ht4.below z3 (fun k hk => hk.elim)).trans ((ht5.below z4 (lo0 1 (by decide))).trans ((ht6.below z5 (fun k hk => hk.elim)).trans (ht7.below z6 (lo0 2 (by decide)))))))⟩
  refine ⟨by simp [hl1, hn], by simp [hl2, hn], hc7, by rw [hlen]; exact hfin, fun j hj => ?_, fun x hx hxf => ?_, ?_, fun x hx => ?_, Nat.le_trans h.bs (Nat.le_trans ht1.size (Nat.le_trans ht3.size (Nat.le_trans ht4.size (Nat.le_trans ht5.size (Nat.le_trans ht6.size ht7.size))))), fun k hk => ?_⟩
  · rw [hlen] at hj
    by_cases hjn : j < n
    · have hj' : j < ls.length := by omega
      rw [List.getElem_append_left hj', hpv 5 j (by decide) hjn, hpv 6 j (by decide) hjn]
      have hb := hb0 ls[j] (List.getElem_mem hj')
      obtain ⟨c1, c2, c3, c4⟩ := h.cell j hj'
      exact ⟨(World.cell?_of_block (a := ⟨ls[j], 1, none⟩) hb).trans c1, (World.cell?_of_block (a := ⟨ls[j], 0, none⟩) hb).trans c2, (World.frozen?_of_block (a := ⟨ls[j], 1, none⟩) hb).trans c3, (World.frozen?_of_block (a := ⟨ls[j], 0, none⟩) hb).trans c4⟩
    · obtain rfl : j = n := by omega
      have e : (ls ++ [l])[j]'(by rw [hlen]; omega) = l := by simp [hn]
      rw [e]
      have p5 : pushV v j x0 x1 x2 x3 x4 (5, j) = .slice none 0 0 := by simp [pushV]
      have p6 : pushV v j x0 x1 x2 x3 x4 (6, j) = .slice none 0 0 := by simp [pushV]
      rw [p5, p6]
      refine ⟨?_, ?_, ?_, ?_⟩ <;> simp [World.cell?, World.frozen?, hbl]
  · rcases List.mem_append.1 hx with hx | hx
    · have hxlt := h.lt x (.inr hx)
      rcases hxf with hxf | hxf
      · exact h.apart x hx (.inl hxf)
      · rcases hat1 x hxf with hq | hq
        · exact h.apart x hx (.inr hq)
        · omega
    · simp only [List.mem_singleton] at hx
      rw [hx] at hxf
      rcases hxf with hxf | hxf
      · have := h.comp.lt; omega
      · rcases hat1 l hxf with hq | hq
        · have := row_lt h.comp.row hq; omega
        · omega
  · refine List.nodup_append.2 ⟨h.nodup, by simp, fun a ha b hb e => ?_⟩
    simp only [List.mem_singleton] at hb
    have := h.lt a (.inr ha)
    omega
  · rcases List.mem_append.1 hx with hx | hx
    · obtain ⟨c, t, e⟩ := h.blk x hx
      exact ⟨c, t, (hb0 x hx).trans e⟩
    · simp only [List.mem_singleton] at hx
      rw [hx]; exact ⟨_, _, hbl⟩
  · have hbs := h.bs
    rcases hk with (hk | hk) | hk
    · exact h.lo k (.inl (.inl hk))
    · rcases hat1 k hk with hk | hk
      · exact h.lo k (.inl (.inr hk))
      · omega
    · rcases List.mem_append.1 hk with hk | hk
      · exact h.lo k (.inr hk)
      · simp only [List.mem_singleton] at hk
        omega
end Go.Proofs.YtiohjlnebeifaaaFmt.Lp
