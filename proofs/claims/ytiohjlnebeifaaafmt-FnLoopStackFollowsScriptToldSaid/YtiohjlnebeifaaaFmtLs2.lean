/- The state of the law FnLoopStackFollowsScript, op by op: what a recorded break or continue does, the start, what a round's end reads. Plain. -/
import Derived.Test.YtiohjlnebeifaaaFmtLs
import Derived.LaidEqlPtr
import Derived.Lib.Builder
namespace Go.Proofs.YtiohjlnebeifaaaFmt.Lp
set_option linter.unusedSimpArgs false
open Go.ChangeShapes Go.WideShapes Go.ChangeAt Go.RowKit Go.Nest

abbrev Hs := List (List Int × List Int)
variable {base : Nat}
def addB (hs : Hs) (j : Nat) (z : Int) : Hs := hs.set j (brk hs j ++ [z], cnt hs j)
def addC (hs : Hs) (j : Nat) (z : Int) : Hs := hs.set j (brk hs j, cnt hs j ++ [z])
theorem addB_length (hs : Hs) (j : Nat) (z : Int) : (addB hs j z).length = hs.length := by simp [addB]
theorem addC_length (hs : Hs) (j : Nat) (z : Int) : (addC hs j z).length = hs.length := by simp [addC]
theorem brk_addB (hs : Hs) (j : Nat) (z : Int) (h : j < hs.length) : brk (addB hs j z) j = brk hs j ++ [z] := by
  simp [addB, brk, List.getElem?_set, h]
theorem brk_addB_ne (hs : Hs) (j k : Nat) (z : Int) (h : k ≠ j) : brk (addB hs j z) k = brk hs k := by
  simp [addB, brk, List.getElem?_set, Ne.symm h]
theorem cnt_addB (hs : Hs) (j k : Nat) (z : Int) (h : j < hs.length) : cnt (addB hs j z) k = cnt hs k := by
  by_cases hk : j = k
  · subst hk; simp [addB, cnt, List.getElem?_set, h]
  · simp [addB, cnt, List.getElem?_set, hk]
theorem cnt_addC (hs : Hs) (j : Nat) (z : Int) (h : j < hs.length) : cnt (addC hs j z) j = cnt hs j ++ [z] := by
  simp [addC, cnt, List.getElem?_set, h]
theorem cnt_addC_ne (hs : Hs) (j k : Nat) (z : Int) (h : k ≠ j) : cnt (addC hs j z) k = cnt hs k := by
  simp [addC, cnt, List.getElem?_set, Ne.symm h]
theorem brk_addC (hs : Hs) (j k : Nat) (z : Int) (h : j < hs.length) : brk (addC hs j z) k = brk hs k := by
  by_cases hk : j = k
  · subst hk; simp [addC, brk, List.getElem?_set, h]
  · simp [addC, brk, List.getElem?_set, hk]
theorem turned_below {w w5 : World} {F : Nat → Prop} (ht : Turned F w w5) (hb : base ≤ w.heap.size) (hF : ∀ k, F k → base ≤ k) (a : Addr) (ha : base ≤ a.block) (x : Value) : Below base w (w5.setCell a x) :=
  (ht.below hb hF).setCell ha x
section
variable {w w5 : World} {C : Nat} {vC : Value} {ls : List Nat} {v : Ix → Value} {hs hc : Hs}
theorem LS.noteB (h : LS w base C vC ls v hs hc) (j : Nat) (hj : j < ls.length) (z : Int) (x : Value) (ht : Turned (fun b => (v (5, j)).ownBlock = some b) w w5)
    (hrow : w5.ownsRow 0 3 1 x ((brk hc j).length + 1) (ints (brk hc j) ++ [.int .i64 z])) (hat : ∀ b, x.ownBlock = some b → (v (5, j)).ownBlock = some b ∨ w.heap.size ≤ b) :
    LS (w5.setCell ⟨ls[j], 1, none⟩ x) base C vC ls (upd v (5, j) x) hs (addB hc j z) ∧ Below base w (w5.setCell ⟨ls[j], 1, none⟩ x) := by
  have hjc : j < hc.length := by rw [h.len2]; exact hj
  have e : cont ls (upd v (5, j) x) hs (addB hc j z) (5, j) = ints (brk hc j) ++ [.int .i64 z] := by
    show ints (brk (addB hc j z) j) = _
    rw [brk_addB hc j z hjc, ints_append]; rfl
  refine ⟨h.note j hj 5 1 (.inl ⟨rfl, rfl⟩) x (by rw [addB_length]; exact h.len2) ht ?_ hat ?_, turned_below ht h.bs (h.own_lo _ (act_row (by decide) (by decide) hj)) _ (h.lo _ (.inr (List.getElem_mem hj))) x⟩
  · rw [e, List.length_append, ints_length]; exact hrow
  · rintro ⟨k, i⟩ hi hne
    rcases hi with ⟨q1, q2⟩ | ⟨q1, q2, q3⟩
    · simp only at q1 q2
      subst q2
      have : k = 0 ∨ k = 1 ∨ k = 2 := by omega
      rcases this with rfl | rfl | rfl
      · rfl
      · exact col_congr (fun j' _ => upd_other v x (by simp))
      · exact col_congr (fun j' _ => upd_other v x (by simp))
    · simp only at q1 q2 q3
      have : k = 3 ∨ k = 4 ∨ k = 5 ∨ k = 6 := by omega
      rcases this with rfl | rfl | rfl | rfl
      · rfl
      · rfl
      · have hij : i ≠ j := fun e => hne (by rw [e])
        exact congrArg ints (brk_addB_ne hc j i z hij)
      · exact congrArg ints (cnt_addB hc j i z hjc)
theorem LS.noteC (h : LS w base C vC ls v hs hc) (j : Nat) (hj : j < ls.length) (z : Int) (x : Value) (ht : Turned (fun b => (v (6, j)).ownBlock = some b) w w5)
    (hrow : w5.ownsRow 0 3 1 x ((cnt hc j).length + 1) (ints (cnt hc j) ++ [.int .i64 z])) (hat : ∀ b, x.ownBlock = some b → (v (6, j)).ownBlock = some b ∨ w.heap.size ≤ b) :
    LS (w5.setCell ⟨ls[j], 0, none⟩ x) base C vC ls (upd v (6, j) x) hs (addC hc j z) ∧ Below base w (w5.setCell ⟨ls[j], 0, none⟩ x) := by
  have hjc : j < hc.length := by rw [h.len2]; exact hj
  have e : cont ls (upd v (6, j) x) hs (addC hc j z) (6, j) = ints (cnt hc j) ++ [.int .i64 z] := by
    show ints (cnt (addC hc j z) j) = _
    rw [cnt_addC hc j z hjc, ints_append]; rfl
  refine ⟨h.note j hj 6 0 (.inr ⟨rfl, rfl⟩) x (by rw [addC_length]; exact h.len2) ht ?_ hat ?_, turned_below ht h.bs (h.own_lo _ (act_row (by decide) (by decide) hj)) _ (h.lo _ (.inr (List.getElem_mem hj))) x⟩
  · rw [e, List.length_append, ints_length]; exact hrow
  · rintro ⟨k, i⟩ hi hne
    rcases hi with ⟨q1, q2⟩ | ⟨q1, q2, q3⟩
    · simp only at q1 q2
      subst q2
      have : k = 0 ∨ k = 1 ∨ k = 2 := by omega
      rcases this with rfl | rfl | rfl
      · rfl
      · exact col_congr (fun j' _ => upd_other v x (by simp))
      · exact col_congr (fun j' _ => upd_other v x (by simp))
    · simp only at q1 q2 q3
      have : k = 3 ∨ k = 4 ∨ k = 5 ∨ k = 6 := by omega
      rcases this with rfl | rfl | rfl | rfl
      · rfl
      · rfl
      · exact congrArg ints (brk_addC hc j i z hjc)
      · have hij : i ≠ j := fun e => hne (by rw [e])
        exact congrArg ints (cnt_addC_ne hc j i z hij)
theorem LS.lawB (h : LS w base C vC ls v hs hc) (j : Nat) (hj : j < ls.length) (z : Int) (g n cap : Nat) (hg : v (1, 0) = .slice (some ⟨g, 0, none⟩) n cap) (x : Value) (ht : Turned (fun b => (v (3, j)).ownBlock = some b) w w5)
    (hrow : w5.ownsRow 0 3 1 x ((brk hs j).length + 1) (ints (brk hs j) ++ [.int .i64 z])) (hat : ∀ b, x.ownBlock = some b → (v (3, j)).ownBlock = some b ∨ w.heap.size ≤ b) :
    LS (w5.setCell ⟨g, j, none⟩ x) base C vC ls (upd v (3, j) x) (addB hs j z) hc ∧ Below base w (w5.setCell ⟨g, j, none⟩ x) := by
  have hjc : j < hs.length := by rw [h.len]; exact hj
  have e : cont ls (upd v (3, j) x) (addB hs j z) hc (3, j) = ints (brk hs j) ++ [.int .i64 z] := by
    show ints (brk (addB hs j z) j) = _
    rw [brk_addB hs j z hjc, ints_append]; rfl
  refine ⟨h.law j hj 3 1 g n cap (.inl ⟨rfl, rfl⟩) x hg (by rw [addB_length]; exact h.len) ht ?_ hat ?_, turned_below ht h.bs (h.own_lo _ (act_row (by decide) (by decide) hj)) _ (h.own_lo (1, 0) (act_top (by decide)) g (by rw [hg]; rfl)) x⟩
  · rw [e, List.length_append, ints_length]; exact hrow
  · rintro ⟨k, i⟩ hi hne hne2
    rcases hi with ⟨q1, q2⟩ | ⟨q1, q2, q3⟩
    · simp only at q1 q2
      subst q2
      have : k = 0 ∨ k = 1 ∨ k = 2 := by omega
      rcases this with rfl | rfl | rfl
      · rfl
      · exact absurd rfl hne2
      · exact col_congr (fun j' _ => upd_other v x (by simp))
    · simp only at q1 q2 q3
      have : k = 3 ∨ k = 4 ∨ k = 5 ∨ k = 6 := by omega
      rcases this with rfl | rfl | rfl | rfl
      · have hij : i ≠ j := fun e => hne (by rw [e])
        exact congrArg ints (brk_addB_ne hs j i z hij)
      · exact congrArg ints (cnt_addB hs j i z hjc)
      · rfl
      · rfl
theorem LS.lawC (h : LS w base C vC ls v hs hc) (j : Nat) (hj : j < ls.length) (z : Int) (g n cap : Nat) (hg : v (2, 0) = .slice (some ⟨g, 0, none⟩) n cap) (x : Value) (ht : Turned (fun b => (v (4, j)).ownBlock = some b) w w5)
    (hrow : w5.ownsRow 0 3 1 x ((cnt hs j).length + 1) (ints (cnt hs j) ++ [.int .i64 z])) (hat : ∀ b, x.ownBlock = some b → (v (4, j)).ownBlock = some b ∨ w.heap.size ≤ b) :
    LS (w5.setCell ⟨g, j, none⟩ x) base C vC ls (upd v (4, j) x) (addC hs j z) hc ∧ Below base w (w5.setCell ⟨g, j, none⟩ x) := by
  have hjc : j < hs.length := by rw [h.len]; exact hj
  have e : cont ls (upd v (4, j) x) (addC hs j z) hc (4, j) = ints (cnt hs j) ++ [.int .i64 z] := by
    show ints (cnt (addC hs j z) j) = _
    rw [cnt_addC hs j z hjc, ints_append]; rfl
  refine ⟨h.law j hj 4 2 g n cap (.inr ⟨rfl, rfl⟩) x hg (by rw [addC_length]; exact h.len) ht ?_ hat ?_, turned_below ht h.bs (h.own_lo _ (act_row (by decide) (by decide) hj)) _ (h.own_lo (2, 0) (act_top (by decide)) g (by rw [hg]; rfl)) x⟩
  · rw [e, List.length_append, ints_length]; exact hrow
  · rintro ⟨k, i⟩ hi hne hne2
    rcases hi with ⟨q1, q2⟩ | ⟨q1, q2, q3⟩
    · simp only at q1 q2
      subst q2
      have : k = 0 ∨ k = 1 ∨ k = 2 := by omega
      rcases this with rfl | rfl | rfl
      · rfl
      · exact col_congr (fun j' _ => upd_other v x (by simp))
      · exact absurd rfl hne2
    · simp only at q1 q2 q3
      have : k = 3 ∨ k = 4 ∨ k = 5 ∨ k = 6 := by omega
      rcases this with rfl | rfl | rfl | rfl
      · exact congrArg ints (brk_addC hs j i z hjc)
      · have hij : i ≠ j := fun e => hne (by rw [e])
        exact congrArg ints (cnt_addC_ne hs j i z hij)
      · rfl
      · rfl
end
/-- A new compiler holds no loop. -/
theorem newLC (w : World) : Calls Tryf.prog 9 #[] w fun e w' => ∃ C, e = .returned (.pointer (some ⟨C, 0, none⟩)) ∧ w.heap.size ≤ C ∧ LC w' C (.slice none 0 0) [] ∧ Below w.heap.size w w' := by
  refine (newC w).mono ?_
  rintro e w' ⟨C, rfl, h1, h2, h3, h4, h5, h6, h7⟩
  exact ⟨C, rfl, h1, ⟨h3, row_nil w' _, h4, h5, h6, h2, by simp [Value.ownBlock]⟩, h7⟩
/-- The law's state at its start. -/
theorem LS.start {w : World} {C : Nat} {x0 x1 x2 : Value} {b0 b1 b2 c0 c1 c2 : Nat} (h : LC w C (.slice none 0 0) []) (hC : base ≤ C) (e0 : x0 = .slice (some ⟨b0, 0, none⟩) 0 c0) (e1 : x1 = .slice (some ⟨b1, 0, none⟩) 0 c1) (e2 : x2 = .slice (some ⟨b2, 0, none⟩) 0 c2)
    (r0 : w.ownsRow 0 27 1 x0 0 []) (r1 : w.ownsRow 0 31 1 x1 0 []) (r2 : w.ownsRow 0 31 1 x2 0 []) (h0 : C < b0) (h1 : b0 < b1) (h2 : b1 < b2) :
    LS w base C (.slice none 0 0) [] (pushV (fun _ => .slice none 0 0) 0 x0 x1 x2 (.slice none 0 0) (.slice none 0 0)) [] [] := by
  have hsp : ∀ i, act 0 i → i = (0, 0) ∨ i = (1, 0) ∨ i = (2, 0) := by
    rintro ⟨k, j⟩ (⟨q1, q2⟩ | ⟨_, _, q⟩)
    · simp only at q1 q2
      subst q2
      have : k = 0 ∨ k = 1 ∨ k = 2 := by omega
      rcases this with rfl | rfl | rfl <;> simp
    · omega
  subst e0 e1 e2
  refine ⟨rfl, rfl, h, ⟨fun i hi => ?_, fun i j k hi hj hk1 hk2 => ?_, fun i k hi hk hs => ?_⟩, fun j hj => by simp at hj, fun l hl => by simp at hl, List.nodup_nil, fun l hl => by simp at hl, by have := h.lt; omega, fun k hk => ?_⟩
  · rcases hsp i hi with rfl | rfl | rfl
    · exact r0
    · exact r1
    · exact r2
  · rcases hsp i hi with rfl | rfl | rfl <;> rcases hsp j hj with rfl | rfl | rfl <;> simp [pushV, Value.ownBlock] at hk1 hk2 ⊢ <;> omega
  · have hk' : k = b0 ∨ k = b1 ∨ k = b2 := by
      rcases hsp i hi with rfl | rfl | rfl <;> simp [pushV, Value.ownBlock] at hk <;> omega
    rcases hs with hs | (hs | hs) | hs
    · omega
    · omega
    · simp [Value.ownBlock] at hs
    · simp at hs
  · rcases hk with (hk | hk) | hk
    · omega
    · simp [Value.ownBlock] at hk
    · simp at hk
/-- What the loop over the open loops reads of loop j. -/
structure At (w : World) (g0 g1 g2 j l : Nat) (a b c d : Value) : Prop where
  cp : w.cell? ⟨g0, j, none⟩ = some (.pointer (some ⟨l, 0, none⟩))
  ca : w.cell? ⟨l, 1, none⟩ = some a
  cb : w.cell? ⟨l, 0, none⟩ = some b
  cc : w.cell? ⟨g1, j, none⟩ = some c
  cd : w.cell? ⟨g2, j, none⟩ = some d
  e1 : ∀ n, Calls Tryf.prog 15 #[a, c] (w.drewN n) fun e w' => e = .returned (.bool true) ∧ ∃ k, w' = (w.drewN n).drewN k
  e2 : ∀ n, Calls Tryf.prog 15 #[b, d] (w.drewN n) fun e w' => e = .returned (.bool true) ∧ ∃ k, w' = (w.drewN n).drewN k
theorem LS.at {w : World} {C : Nat} {vC : Value} {ls : List Nat} {v : Ix → Value} {hs : Hs} {g0 g1 g2 n0 n1 n2 c0 c1 c2 : Nat} (h : LS w base C vC ls v hs hs) (e0 : v (0, 0) = .slice (some ⟨g0, 0, none⟩) n0 c0) (e1 : v (1, 0) = .slice (some ⟨g1, 0, none⟩) n1 c1) (e2 : v (2, 0) = .slice (some ⟨g2, 0, none⟩) n2 c2)
    (hb : ∀ j, (brk hs j).length ≤ 1000000 ∧ (cnt hs j).length ≤ 1000000) (j : Nat) (hj : j < ls.length) : At w g0 g1 g2 j ls[j] (v (5, j)) (v (6, j)) (v (3, j)) (v (4, j)) := by
  obtain ⟨k1, k2, _, _⟩ := h.cell j hj
  have r0 := h.fam.row (0, 0) (act_top (by decide))
  have r1 := h.fam.row (1, 0) (act_top (by decide))
  have r2 := h.fam.row (2, 0) (act_top (by decide))
  have s0 : cont ls v hs hs (0, 0) = ptrs ls := rfl
  have s1 : cont ls v hs hs (1, 0) = col v 3 ls.length := rfl
  have s2 : cont ls v hs hs (2, 0) = col v 4 ls.length := rfl
  rw [e0, s0, ptrs_length] at r0
  rw [e1, s1, col_length] at r1
  rw [e2, s2, col_length] at r2
  have f0 : n0 = ls.length := by obtain ⟨_, _, e, _⟩ := row_form r0; simp only [Value.slice.injEq] at e; exact e.2.1
  have f1 : n1 = ls.length := by obtain ⟨_, _, e, _⟩ := row_form r1; simp only [Value.slice.injEq] at e; exact e.2.1
  have f2 : n2 = ls.length := by obtain ⟨_, _, e, _⟩ := row_form r2; simp only [Value.slice.injEq] at e; exact e.2.1
  subst f0
  subst f1
  subst f2
  refine ⟨(row_cell r0 (by simp [ptrs, List.getElem?_eq_getElem hj])).1, k1, k2, (row_cell r1 (col_get v 3 ls.length j hj)).1, (row_cell r2 (col_get v 4 ls.length j hj)).1, fun n => ?_, fun n => ?_⟩
  · have hh := ((h.drewN (n := n)).same j hj).1
    exact sameInts _ _ _ _ hh.2 hh.1 (hb j).1
  · have hh := ((h.drewN (n := n)).same j hj).2
    exact sameInts _ _ _ _ hh.2 hh.1 (hb j).2
end Go.Proofs.YtiohjlnebeifaaaFmt.Lp
