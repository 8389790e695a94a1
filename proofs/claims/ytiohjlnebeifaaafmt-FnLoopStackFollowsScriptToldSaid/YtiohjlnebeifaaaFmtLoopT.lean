/- The compiler's stack of loops again: what turns is the compiler's block and its row's own. -/
import Derived.Test.YtiohjlnebeifaaaFmtLoop
import Derived.Test.YtiohjlnebeifaaaFmtNest
namespace Go.Proofs.YtiohjlnebeifaaaFmt.Lp
open Go.ChangeShapes Go.WideShapes Go.ChangeAt Go.RowKit Go.Nest

/-- The compiler in block C holds the open loops ls in the row v. -/
structure LC (w : World) (C : Nat) (v : Value) (ls : List Nat) : Prop where
  c12 : w.cell? ⟨C, 12, none⟩ = some v
  row : w.ownsRow 0 27 1 v ls.length (ptrs ls)
  c13 : w.cell? ⟨C, 13, none⟩ = some (.int .i64 ((ls.length : Int) - 1))
  c14 : w.cell? ⟨C, 14, none⟩ = some .nilIface
  frz : ∀ j, w.frozen? ⟨C, j, none⟩ = false
  lt : C < w.heap.size
  ne : v.ownBlock ≠ some C
/-- The blocks that the compiler's loops take. -/
def LF (C : Nat) (v : Value) (k : Nat) : Prop := k = C ∨ v.ownBlock = some k
theorem LC.turned {w w' : World} {C : Nat} {v : Value} {ls : List Nat} {F : Nat → Prop} (h : LC w C v ls) (ht : Turned F w w') (hd : ∀ k, LF C v k → ¬ F k) : LC w' C v ls := by
  have hC : w'.heap[C]? = w.heap[C]? := ht.block C h.lt (hd C (.inl rfl))
  exact ⟨(World.cell?_of_block (a := ⟨C, 12, none⟩) hC).trans h.c12, row_keep h.row (fun k hk => ht.block k (row_lt h.row hk) (hd k (.inr hk))), (World.cell?_of_block (a := ⟨C, 13, none⟩) hC).trans h.c13, (World.cell?_of_block (a := ⟨C, 14, none⟩) hC).trans h.c14,
    fun j => (World.frozen?_of_block (a := ⟨C, j, none⟩) hC).trans (h.frz j), Nat.lt_of_lt_of_le h.lt ht.size, h.ne⟩
theorem LC.drewN {w : World} {C n : Nat} {v : Value} {ls : List Nat} (h : LC w C v ls) : LC (w.drewN n) C v ls := h.turned ((Turned.refl (fun _ => False) w).drewN n) (fun _ _ hf => hf)

/-- What stands behind a new row and a new index. -/
theorem LC.store {w w5 : World} {C : Nat} {v v' : Value} {ls ls' : List Nat} (z : Int) (h : LC w C v ls) (ht : Turned (fun k => v.ownBlock = some k) w w5) (hown : w5.ownsRow 0 27 1 v' ls'.length (ptrs ls')) (hz : z = (ls'.length : Int) - 1) (hne : v'.ownBlock ≠ some C) :
    LC ((w5.setCell ⟨C, 12, none⟩ v').setCell ⟨C, 13, none⟩ (.int .i64 z)) C v' ls' ∧ Turned (LF C v) w ((w5.setCell ⟨C, 12, none⟩ v').setCell ⟨C, 13, none⟩ (.int .i64 z)) := by
  have hC : w5.heap[C]? = w.heap[C]? := ht.block C h.lt h.ne
  have c12 := (World.cell?_of_block (a := ⟨C, 12, none⟩) hC).trans h.c12
  have c13 := (World.cell?_of_block (a := ⟨C, 13, none⟩) hC).trans h.c13
  have c14 := (World.cell?_of_block (a := ⟨C, 14, none⟩) hC).trans h.c14
  have hn : (⟨C, 12, none⟩ : Addr) ≠ ⟨C, 13, none⟩ := by simp
  have d13 : (w5.setCell ⟨C, 12, none⟩ v').cell? ⟨C, 13, none⟩ = some (.int .i64 ((ls.length : Int) - 1)) := (World.cell?_setCell_other _ _ _ _ hn).trans c13
  have ht2 : Turned (LF C v) w ((w5.setCell ⟨C, 12, none⟩ v').setCell ⟨C, 13, none⟩ (.int .i64 z)) := by
    refine ⟨ht.os, ht.tape, ht.output, ?_, fun k hk hnk => ?_⟩
    · have := ht.size; simpa using this
    · have hkC : k ≠ C := fun e => hnk (.inl e)
      rw [heap_setCell_other _ _ _ _ hkC, heap_setCell_other _ _ _ _ hkC]
      exact ht.block k hk (fun e => hnk (.inr e))
  refine ⟨⟨?_, ?_, ?_, ?_, fun j => ?_, ?_, hne⟩, ht2⟩
  · exact (World.cell?_setCell_other _ _ _ _ (Ne.symm hn)).trans (World.cell?_setCell_same _ _ _ c12)
  · exact row_keep hown (fun k hk => by
      have hkC : k ≠ C := fun e => hne (e ▸ hk)
      rw [heap_setCell_other _ _ _ _ hkC, heap_setCell_other _ _ _ _ hkC])
  · rw [World.cell?_setCell_same _ _ _ d13, hz]
  · exact (World.cell?_setCell_other _ _ _ _ (by simp)).trans ((World.cell?_setCell_other _ _ _ _ (by simp)).trans c14)
  · rw [World.frozen?_setCell, World.frozen?_setCell]; exact (World.frozen?_of_block (a := ⟨C, j, none⟩) hC).trans (h.frz j)
  · exact Nat.lt_of_lt_of_le h.lt ht2.size

set_option maxRecDepth 100000 in
set_option maxHeartbeats 1000000 in
theorem enterLoopT (C : Nat) (v : Value) (ls : List Nat) (w : World) (h : LC w C v ls) (hl : ls.length ≤ 1048576) :
    Calls Tryf.prog 26 #[.pointer (some ⟨C, 0, none⟩)] w fun e w' => e = .returned (.pointer (some ⟨w.heap.size, 0, none⟩)) ∧
      (∃ v', LC w' C v' (ls ++ [w.heap.size]) ∧ (∀ k, v'.ownBlock = some k → v.ownBlock = some k ∨ w.heap.size < k)) ∧ Turned (LF C v) w w' ∧ w'.heap[w.heap.size]? = some (.cells #[.slice none 0 0, .slice none 0 0] 33 (0, 0)) := by
  have H := Lib.hid h
  obtain ⟨p, cap, rfl, _, _⟩ := row_form h.row
  have h1 := h.c12
  have h3 := h.c13
  have h4 := h.c14
  have hCw := h.lt
  obtain ⟨i3, hi, hz0, hz1, hz2⟩ := info_parts infoP
  have HI := Lib.hid hi
  have HI0 := Lib.hid hz0
  have HI1 := Lib.hid hz1
  have HI2 := Lib.hid hz2
  have HO := Lib.hid h.row
  have f12 := h.frz 12
  have f13 := h.frz 13
  have hneC := Lib.hid h.ne
  clear hi hz0 hz1 hz2 h
  have hCw1 : C < w.heap.size + 1 := by omega
  have hCw2 : C ≠ w.heap.size := by omega
  go_enter Tryf.func26, Tryf.ntmps26
  go_wp2_with ((at_builtin; refine wpList_append_lies _ rfl _ _ 29 rfl 0 27 i3 (.pointer none) 1 8 Tryf.underlying29 HI.out HI0.out HI1.out HI2.out rfl (by decide) (.slice p ls.length cap) ls.length (ptrs ls) rfl ((HO.out.alloc _).alloc _) ⟨w.heap.size + 1, 0, none⟩ 1 1 [.pointer (some ⟨w.heap.size, 0, none⟩)] rfl rfl (news_p _ _ _ _) (by simp [Value.oneCell']) (by decide) (by unfold maxLen; omega) (by omega) (by simp) (w.heap.size + 2) (by simp) ?_; intro g5 cap' w5 hown5 hgrow5 hat5 hlt5; have hs5 : w.heap.size + 2 ≤ w5.heap.size := (by have := hgrow5.size; simp at this; omega); have hC5 : w5.heap[C]? = w.heap[C]? := ((hgrow5.block C (by simp; omega) (fun e => hneC.out e.symm)).trans (Below.heap_alloc _ _ C (by simp; omega))).trans (Below.heap_alloc w _ C hCw); have c12 := (World.cell?_of_block (a := ⟨C, 12, none⟩) hC5).trans h1; have c13 := (World.cell?_of_block (a := ⟨C, 13, none⟩) hC5).trans h3; have c14 := (World.cell?_of_block (a := ⟨C, 14, none⟩) hC5).trans h4; have g12 := (World.frozen?_of_block (a := ⟨C, 12, none⟩) hC5).trans f12; have g13 := (World.frozen?_of_block (a := ⟨C, 13, none⟩) hC5).trans f13; have HOW5 := Lib.hid hown5; have HG5 := Lib.hid hgrow5; have HAT5 := Lib.hid hat5; clear hown5 hgrow5 hat5 hC5))
  go_ret
  have e1 : ls.length + 1 = (ls ++ [w.heap.size]).length := by simp
  have hown6 : w5.ownsRow 0 27 1 (.slice (some ⟨g5, 0, none⟩) (ls.length + 1) cap') (ls ++ [w.heap.size]).length (ptrs (ls ++ [w.heap.size])) := by
    rw [← e1, ptrs_append]; exact HOW5.out
  have hrow : ∀ k, (Value.slice p ls.length cap).ownBlock = some k → k < w.heap.size := fun k hk => row_lt HO.out hk
  have hat : ∀ k, (Value.slice (some ⟨g5, 0, none⟩) (ls.length + 1) cap').ownBlock = some k → (Value.slice p ls.length cap).ownBlock = some k ∨ w.heap.size < k := by
    intro k hk
    have e' : g5 = k := by simpa [Value.ownBlock] using hk
    subst e'
    rcases HAT5.out with h | h
    · exact .inl h
    · right; omega
  have ht : Turned (fun k => (Value.slice p ls.length cap).ownBlock = some k) w w5 :=
    ⟨HG5.out.os, HG5.out.tape, HG5.out.output, by omega, fun k hk hn => ((HG5.out.block k (by simp; omega) (fun e => hn e.symm)).trans (Below.heap_alloc _ _ k (by simp; omega))).trans (Below.heap_alloc w _ k hk)⟩
  have hst := LC.store (v' := .slice (some ⟨g5, 0, none⟩) (ls.length + 1) cap') (ls' := ls ++ [w.heap.size]) ((ls.length : Int)) H.out ht hown6 (by simp) (fun e => by
    rcases hat C e with h | h
    · exact hneC.out h
    · omega)
  refine ⟨rfl, ⟨_, hst.1, hat⟩, hst.2, ?_⟩
  rw [heap_setCell_other _ _ _ _ (Ne.symm hCw2), heap_setCell_other _ _ _ _ (Ne.symm hCw2)]
  refine (HG5.out.block w.heap.size (by simp; omega) (fun e => by have := hrow _ e.symm; omega)).trans ((Below.heap_alloc _ _ _ (by simp)).trans (heap_alloc_new w _))

set_option maxRecDepth 100000 in
set_option maxHeartbeats 1000000 in
theorem leaveLoopT (C : Nat) (v : Value) (ls : List Nat) (l : Nat) (w : World) (h : LC w C v (ls ++ [l])) (hl : ls.length ≤ 1048576) :
    Calls Tryf.prog 27 #[.pointer (some ⟨C, 0, none⟩)] w fun e w' => e = .returned (.tuple #[]) ∧ (∃ v', LC w' C v' ls ∧ v'.ownBlock = v.ownBlock) ∧ Turned (LF C v) w w' := by
  have H := Lib.hid h
  have hlen : (ls ++ [l]).length = ls.length + 1 := by simp
  obtain ⟨p, cap, rfl, hcap, hcm⟩ := row_form h.row
  rw [hlen] at hcap
  obtain ⟨g, rfl, _⟩ := row_some h.row (by omega)
  have h1 := h.c12
  have h3 := h.c13
  have h4 := h.c14
  have hCw := h.lt
  have f12 := h.frz 12
  have f13 := h.frz 13
  rw [hlen] at h1 h3
  have h3' : w.cell? ⟨C, 13, none⟩ = some (.int .i64 (ls.length : Int)) := by rw [h3]; congr 2; omega
  have HO := Lib.hid (row_take h.row (n := ls.length) (by omega))
  clear h h3
  go_enter Tryf.func27, Tryf.ntmps27
  go_wp2
  go_region
  all_goals
    go_wp2
    go_end0
    have hpt : (ptrs (ls ++ [l])).take (ls.length * 1) = ptrs ls := by rw [ptrs_append, Nat.mul_one, List.take_left' (ptrs_length ls)]
    have hown := HO.out
    rw [hpt] at hown
    have hst := LC.store (v' := .slice (some ⟨g, 0, none⟩) ls.length cap) (ls' := ls) ((ls.length : Int) - 1) H.out (Turned.refl _ w) hown rfl (fun e => H.out.ne e)
    exact ⟨rfl, ⟨_, hst.1.drewN (n := 1), rfl⟩, hst.2.drewN 1⟩

theorem loops_cell {w : World} {g cap : Nat} {ls : List Nat} (h : w.ownsRow 0 27 1 (.slice (some ⟨g, 0, none⟩) ls.length cap) ls.length (ptrs ls)) (j : Nat) (hj : j < ls.length) : w.cell? ⟨g, j, none⟩ = some (.pointer (some ⟨ls[j], 0, none⟩)) ∧ w.frozen? ⟨g, j, none⟩ = false :=
  row_cell h (by simp [ptrs, List.getElem?_eq_getElem hj])
set_option maxHeartbeats 1000000 in
theorem currentLoopT (C : Nat) (v : Value) (ls : List Nat) (w : World) (h : LC w C v ls) (hl : ls.length ≤ 1048576) :
    Calls Tryf.prog 25 #[.pointer (some ⟨C, 0, none⟩)] w fun e w' => e = .returned (.pointer (ls.getLast?.map fun l => ⟨l, 0, none⟩)) ∧ ∃ n, w' = w.drewN n := by
  have h1 := h.c12
  have h3 := h.c13
  by_cases h0 : ls.length = 0
  · obtain rfl : ls = [] := List.length_eq_zero_iff.1 h0
    simp only [List.length_nil] at h1 h3
    clear h h0
    go_enter Tryf.func25, Tryf.ntmps25
    go_wp2
    go_ret
    exact ⟨rfl, 0, rfl⟩
  · obtain ⟨p, cap, rfl, _, _⟩ := row_form h.row
    obtain ⟨g, rfl, _⟩ := row_some h.row (by omega)
    have hx : ls.length - 1 < ls.length := by omega
    have hc := (loops_cell h.row (ls.length - 1) hx).1
    have HL : Hid (ls.getLast? = some ls[ls.length - 1]) := Lib.hid (by rw [List.getLast?_eq_getElem?, List.getElem?_eq_getElem hx])
    clear h
    generalize ls[ls.length - 1] = x at *
    have s1 : (0 : Int) ≤ (ls.length : Int) - 1 := by omega
    have s2 : (ls.length : Int) - 1 < (ls.length : Int) := by omega
    have s3 : ((ls.length : Int) - 1).toNat = ls.length - 1 := by omega
    clear h0
    go_enter Tryf.func25, Tryf.ntmps25
    go_wp2
    go_quiet (fail)
    go_wp2
    go_ret
    exact ⟨by rw [HL.out]; rfl, _, rfl⟩
theorem zCurT (C : Nat) (v : Value) (ls : List Nat) (w : World) (h : LC w C v ls) (hl : ls.length ≤ 1048576) :
    Calls Tryf.prog 10 #[.pointer (some ⟨C, 0, none⟩)] w fun e w' => e = .returned (.pointer (ls.getLast?.map fun l => ⟨l, 0, none⟩)) ∧ ∃ n, w' = w.drewN n := by
  have HC := Lib.hid (currentLoopT C v ls w h hl)
  go_enter Tryf.func10, Tryf.ntmps10
  go_wp2_with (fail)
  refine HC.out.mono ?_
  rintro e w' ⟨rfl, n, rfl⟩
  go_wp2
  go_ret
  exact ⟨rfl, n, rfl⟩
theorem zIdxT (C : Nat) (v : Value) (ls : List Nat) (w : World) (h : LC w C v ls) : Calls Tryf.prog 13 #[.pointer (some ⟨C, 0, none⟩)] w fun e w' => e = .returned (.int .i64 ((ls.length : Int) - 1)) ∧ w = w' := by
  have h3 := h.c13
  clear h
  go_enter Tryf.func13, Tryf.ntmps13
  go_wp2
  go_ret
  exact ⟨rfl, rfl⟩
theorem zNumT (C : Nat) (v : Value) (ls : List Nat) (w : World) (h : LC w C v ls) : Calls Tryf.prog 14 #[.pointer (some ⟨C, 0, none⟩)] w fun e w' => e = .returned (.int .i64 (ls.length : Int)) ∧ w = w' := by
  obtain ⟨p, cap, rfl, _, _⟩ := row_form h.row
  have h1 := h.c12
  clear h
  go_enter Tryf.func14, Tryf.ntmps14
  go_wp2
  go_ret
  exact ⟨rfl, rfl⟩
theorem zEnterT (C : Nat) (v : Value) (ls : List Nat) (w : World) (h : LC w C v ls) (hl : ls.length ≤ 1048576) :
    Calls Tryf.prog 11 #[.pointer (some ⟨C, 0, none⟩)] w fun e w' => e = .returned (.pointer (some ⟨w.heap.size, 0, none⟩)) ∧
      (∃ v', LC w' C v' (ls ++ [w.heap.size]) ∧ (∀ k, v'.ownBlock = some k → v.ownBlock = some k ∨ w.heap.size < k)) ∧ Turned (LF C v) w w' ∧ w'.heap[w.heap.size]? = some (.cells #[.slice none 0 0, .slice none 0 0] 33 (0, 0)) := by
  have HC := Lib.hid (enterLoopT C v ls w h hl)
  go_enter Tryf.func11, Tryf.ntmps11
  go_wp2_with (fail)
  refine HC.out.mono ?_
  rintro e w' ⟨rfl, h1, h2, h3⟩
  go_wp2
  go_ret
  exact ⟨rfl, h1, h2, h3⟩
theorem zLeaveT (C : Nat) (v : Value) (ls : List Nat) (l : Nat) (w : World) (h : LC w C v (ls ++ [l])) (hl : ls.length ≤ 1048576) :
    Calls Tryf.prog 12 #[.pointer (some ⟨C, 0, none⟩)] w fun e w' => e = .returned (.tuple #[]) ∧ (∃ v', LC w' C v' ls ∧ v'.ownBlock = v.ownBlock) ∧ Turned (LF C v) w w' := by
  have HC := Lib.hid (leaveLoopT C v ls l w h hl)
  go_enter Tryf.func12, Tryf.ntmps12
  go_wp2_with (fail)
  refine HC.out.mono ?_
  rintro e w' ⟨rfl, h1, h2⟩
  go_wp2
  go_end0
  exact ⟨rfl, h1, h2⟩
end Go.Proofs.YtiohjlnebeifaaaFmt.Lp
