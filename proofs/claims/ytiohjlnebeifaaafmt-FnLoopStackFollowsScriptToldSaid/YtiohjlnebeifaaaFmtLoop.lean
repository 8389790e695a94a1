/- The compiler's stack of loops: a new compiler, enterLoop, leaveLoop, currentLoop. -/
import Derived.Test.YtiohjlnebeifaaaFmtRows
import Derived.Test.YtiohjlnebeifaaaFmtBuf
import Derived.Test.YtiohjlnebeifaaaFmtFrame
import Derived.Test.YtiohjlnebeifaaaFmtCut
import Derived.LoopTactic
import Derived.Deep.LoopGhost
import Derived.RegionTactic
import Derived.WalkLawsBesides
import Derived.WalkSpells
import Derived.Outline
import Derived.KernelRfl
import Derived.Lib.Hide
import Derived.Deep.QuietTactic
import Derived.BigQuiet
import Derived.Deep.AppendLies
namespace Go.Proofs.YtiohjlnebeifaaaFmt.Lp
open Go.ChangeShapes Go.WideShapes Go.ChangeAt Go.RowKit

theorem infoP : (Tryf.prog.info? 27).map (fun i => (i.zero, i.size, i.bytes)) = some (some (.pointer none), 1, 8) := by kernel_rfl
def ptrs (ls : List Nat) : List Value := ls.map fun l => Value.pointer (some ⟨l, 0, none⟩)
theorem ptrs_append (a b : List Nat) : ptrs (a ++ b) = ptrs a ++ ptrs b := by simp [ptrs]
theorem ptrs_length (a : List Nat) : (ptrs a).length = a.length := by simp [ptrs]

/-- Block l is a row of cells, none frozen. -/
def LoopB (w : World) (l : Nat) : Prop := ∃ c t, w.heap[l]? = some (.cells c t (0, 0))
theorem LoopB.lt {w : World} {l : Nat} (h : LoopB w l) : l < w.heap.size := by
  obtain ⟨c, t, h⟩ := h
  exact (Array.getElem?_eq_some_iff.1 h).1
theorem LoopB.same {w w' : World} {l : Nat} (h : LoopB w l) (hk : w'.heap[l]? = w.heap[l]?) : LoopB w' l := by
  obtain ⟨c, t, h⟩ := h
  exact ⟨c, t, hk.trans h⟩
/-- The compiler in block C holds the open loops ls; their row lies from block 'base' on; 'all': every loop handed out. -/
def CompL (w : World) (base C : Nat) (all ls : List Nat) : Prop :=
  ∃ p cap, w.cell? ⟨C, 12, none⟩ = some (.slice p ls.length cap) ∧ w.ownsRow base 27 1 (.slice p ls.length cap) ls.length (ptrs ls) ∧ w.cell? ⟨C, 13, none⟩ = some (.int .i64 ((ls.length : Int) - 1)) ∧
    w.cell? ⟨C, 14, none⟩ = some .nilIface ∧ (∀ j, w.frozen? ⟨C, j, none⟩ = false) ∧ C < base ∧ base ≤ w.heap.size ∧ ∀ l ∈ all, LoopB w l ∧ (Value.slice p ls.length cap).ownBlock ≠ some l ∧ base ≤ l
/-- Below 'base' nothing but block C has turned. -/
structure KeptC (base C : Nat) (w w' : World) : Prop where
  os : w'.os = w.os
  tape : w'.tape = w.tape
  output : w'.output = w.output
  size : w.heap.size ≤ w'.heap.size
  block : ∀ k, k < base → k ≠ C → w'.heap[k]? = w.heap[k]?
theorem KeptC.below {base C B : Nat} {w w' : World} (h : KeptC base C w w') (h1 : B ≤ base) (h2 : B ≤ C) : Below B w w' :=
  ⟨h.os, h.tape, h.output, h.size, fun k hk => h.block k (by omega) (by omega)⟩
theorem KeptC.trans {base C : Nat} {x y z : World} (h : KeptC base C x y) (k : KeptC base C y z) : KeptC base C x z :=
  ⟨k.os.trans h.os, k.tape.trans h.tape, k.output.trans h.output, Nat.le_trans h.size k.size, fun i h1 h2 => (k.block i h1 h2).trans (h.block i h1 h2)⟩
theorem KeptC.drew {base C : Nat} {w w' : World} (h : KeptC base C w w') : KeptC base C w w'.drew := ⟨h.os, h.tape, h.output, h.size, h.block⟩
theorem KeptC.refl (base C : Nat) (w : World) : KeptC base C w w := ⟨rfl, rfl, rfl, Nat.le_refl _, fun _ _ _ => rfl⟩
theorem CompL.all {w : World} {base C : Nat} {all ls : List Nat} (h : CompL w base C all ls) : ∀ l ∈ all, LoopB w l ∧ base ≤ l := by
  obtain ⟨_, _, _, _, _, _, _, _, _, h8⟩ := h
  exact fun l hl => ⟨(h8 l hl).1, (h8 l hl).2.2⟩
theorem CompL.lt {w : World} {base C : Nat} {all ls : List Nat} (h : CompL w base C all ls) : C < base ∧ base ≤ w.heap.size := by
  obtain ⟨_, _, _, _, _, _, _, h6, h7, _⟩ := h
  exact ⟨h6, h7⟩
/-- Where only block E (below 'base', not C) has turned. -/
theorem CompL.other {w w' : World} {base C E : Nat} {all ls : List Nat} (h : CompL w base C all ls) (hE : E < base) (hne : E ≠ C) (hs : w.heap.size ≤ w'.heap.size) (hk : ∀ k, k < w.heap.size → k ≠ E → w'.heap[k]? = w.heap[k]?) : CompL w' base C all ls := by
  obtain ⟨p, cap, h1, h2, h3, h4, h5, h6, h7, h8⟩ := h
  have hC : w'.heap[C]? = w.heap[C]? := hk C (by omega) (Ne.symm hne)
  exact ⟨p, cap, (World.cell?_of_block (a := ⟨C, 12, none⟩) hC).trans h1, Go.Fmt.ownsRow_below h2 (fun k hkk => hk k (h2.lt k hkk).2 (by have := (h2.lt k hkk).1; omega)), (World.cell?_of_block (a := ⟨C, 13, none⟩) hC).trans h3,
    (World.cell?_of_block (a := ⟨C, 14, none⟩) hC).trans h4, fun j => (World.frozen?_of_block (a := ⟨C, j, none⟩) hC).trans (h5 j), h6, Nat.le_trans h7 hs,
    fun l hl => ⟨(h8 l hl).1.same (hk l (h8 l hl).1.lt (by have := (h8 l hl).2.2; omega)), (h8 l hl).2⟩⟩
theorem CompL.drewN {w : World} {base C n : Nat} {all ls : List Nat} (h : CompL w base C all ls) : CompL (w.drewN n) base C all ls := h
theorem CompL.drew {w : World} {base C : Nat} {all ls : List Nat} (h : CompL w base C all ls) : CompL w.drew base C all ls := h

/-- What stands behind a new row of loops and a new index. -/
theorem compL_store {w w5 : World} {base C : Nat} {all ls : List Nat} {v : Value} (all' ls' : List Nat) (z : Int) (h : CompL w base C all ls) (hbel : Below base w w5) (hown : w5.ownsRow base 27 1 v ls'.length (ptrs ls')) (hz : z = (ls'.length : Int) - 1)
    (hall : ∀ l ∈ all', LoopB w5 l ∧ v.ownBlock ≠ some l ∧ base ≤ l) :
    CompL ((w5.setCell ⟨C, 12, none⟩ v).setCell ⟨C, 13, none⟩ (.int .i64 z)) base C all' ls' ∧ KeptC base C w ((w5.setCell ⟨C, 12, none⟩ v).setCell ⟨C, 13, none⟩ (.int .i64 z)) := by
  obtain ⟨p, cap, h1, h2, h3, h4, h5, h6, h7, _⟩ := h
  obtain ⟨q, cap', rfl, h8, h9⟩ := Go.Fmt.ownsRow_form hown
  have c12 := (hbel.cell (p := ⟨C, 12, none⟩) h6).trans h1
  have c13 := (hbel.cell (p := ⟨C, 13, none⟩) h6).trans h3
  have c14 := (hbel.cell (p := ⟨C, 14, none⟩) h6).trans h4
  have hne : (⟨C, 12, none⟩ : Addr) ≠ ⟨C, 13, none⟩ := by simp
  have d13 : (w5.setCell ⟨C, 12, none⟩ (.slice q ls'.length cap')).cell? ⟨C, 13, none⟩ = some (.int .i64 ((ls.length : Int) - 1)) := (World.cell?_setCell_other _ _ _ _ hne).trans c13
  refine ⟨⟨q, cap', ?_, Go.Fmt.ownsRow_setCell (Go.Fmt.ownsRow_setCell hown h6) h6, ?_, ?_, fun j => ?_, h6, ?_, fun l hl => ⟨(hall l hl).1.same ?_, (hall l hl).2⟩⟩, ⟨hbel.os, hbel.tape, hbel.output, ?_, fun k hk hkC => ?_⟩⟩
  · exact (World.cell?_setCell_other _ _ _ _ (Ne.symm hne)).trans (World.cell?_setCell_same _ _ _ c12)
  · rw [World.cell?_setCell_same _ _ _ d13, hz]
  · exact (World.cell?_setCell_other _ _ _ _ (by simp)).trans ((World.cell?_setCell_other _ _ _ _ (by simp)).trans c14)
  · rw [World.frozen?_setCell, World.frozen?_setCell]; exact (hbel.frozen (p := ⟨C, j, none⟩) h6).trans (h5 j)
  · have := hbel.size; simp; omega
  · have hlC : l ≠ C := by have := (hall l hl).2.2; omega
    rw [heap_setCell_other _ _ _ _ hlC, heap_setCell_other _ _ _ _ hlC]
  · have := hbel.size; simp; omega
  · rw [heap_setCell_other _ _ _ _ hkC, heap_setCell_other _ _ _ _ hkC]; exact hbel.block k hk

theorem news_p (w : World) (o : Obj) (v : Value) (e : TypeId) : ∀ j u, [v][j]? = some u → ((w.alloc o).alloc (.cells #[v] e)).cell? ((⟨w.heap.size + 1, 0, none⟩ : Addr).add j) = some u := by
  intro j u hj
  have h := heap_alloc_new (w.alloc o) (.cells #[v] e)
  rw [show (w.alloc o).heap.size = w.heap.size + 1 by simp] at h
  exact World.news_of_block (t := e) (fr := (0, 0)) h j u hj

set_option maxRecDepth 100000 in
set_option maxHeartbeats 1000000 in
theorem enterLoop (base C : Nat) (all ls : List Nat) (w : World) (h : CompL w base C all ls) (hl : ls.length ≤ 1048576) :
    Calls Tryf.prog 26 #[.pointer (some ⟨C, 0, none⟩)] w fun e w' => e = .returned (.pointer (some ⟨w.heap.size, 0, none⟩)) ∧ CompL w' base C (all ++ [w.heap.size]) (ls ++ [w.heap.size]) ∧ KeptC base C w w' ∧ w.heap.size < w'.heap.size := by
  have H := Lib.hid h
  obtain ⟨p, cap, h1, h2, h3, h4, h5, h6, h7, h8⟩ := h
  have HALL := Lib.hid h8
  clear h8
  obtain ⟨i3, hi, hz0, hz1, hz2⟩ := info_parts infoP
  have HI := Lib.hid hi
  have HI0 := Lib.hid hz0
  have HI1 := Lib.hid hz1
  have HI2 := Lib.hid hz2
  have HO := Lib.hid h2
  have f12 := h5 12
  have f13 := h5 13
  clear hi hz0 hz1 hz2 h2 h5
  have hCw : C < w.heap.size := by omega
  have hCw1 : C < w.heap.size + 1 := by omega
  have hCw2 : C ≠ w.heap.size := by omega
  go_enter Tryf.func26, Tryf.ntmps26
  go_wp2_with ((at_builtin; refine wpList_append_lies _ rfl _ _ 29 rfl base 27 i3 (.pointer none) 1 8 Tryf.underlying29 HI.out HI0.out HI1.out HI2.out rfl (by decide) (.slice p ls.length cap) ls.length (ptrs ls) rfl ((HO.out.alloc _).alloc _) ⟨w.heap.size + 1, 0, none⟩ 1 1 [.pointer (some ⟨w.heap.size, 0, none⟩)] rfl rfl (news_p _ _ _ _) (by simp [Value.oneCell']) (by decide) (by unfold maxLen; omega) (by omega) (by simp; omega) (w.heap.size + 2) (by simp) ?_; intro g5 cap' w5 hown5 hgrow5 hat5 hlt5; have hb5 : Below base w w5 := (((Below.refl base w).alloc h7 _).alloc (by simp; omega) _).grown hgrow5 (by simp; omega) (fun k hk => (HO.out.lt k hk).1); have hs5 : w.heap.size + 2 ≤ w5.heap.size := (by have := hgrow5.size; simp at this; omega); have c12 := (hb5.cell (p := ⟨C, 12, none⟩) h6).trans h1; have c13 := (hb5.cell (p := ⟨C, 13, none⟩) h6).trans h3; have c14 := (hb5.cell (p := ⟨C, 14, none⟩) h6).trans h4; have g12 := (hb5.frozen (p := ⟨C, 12, none⟩) h6).trans f12; have g13 := (hb5.frozen (p := ⟨C, 13, none⟩) h6).trans f13; have HOW5 := Lib.hid hown5; have HB5 := Lib.hid hb5; have HG5 := Lib.hid hgrow5; have HAT5 := Lib.hid hat5; clear hown5 hgrow5 hb5 hat5))
  go_ret
  have e1 : ls.length + 1 = (ls ++ [w.heap.size]).length := by simp
  have hown6 : w5.ownsRow base 27 1 (.slice (some ⟨g5, 0, none⟩) (ls.length + 1) cap') (ls ++ [w.heap.size]).length (ptrs (ls ++ [w.heap.size])) := by
    rw [← e1, ptrs_append]; exact HOW5.out
  have hall : ∀ l ∈ all ++ [w.heap.size], LoopB w5 l ∧ (Value.slice (some ⟨g5, 0, none⟩) (ls.length + 1) cap').ownBlock ≠ some l ∧ base ≤ l := by
    intro l hl
    have hrow : ∀ k, (Value.slice p ls.length cap).ownBlock = some k → base ≤ k ∧ k < w.heap.size := HO.out.lt
    have hlw : l < w.heap.size + 1 ∧ (Value.slice p ls.length cap).ownBlock ≠ some l ∧ base ≤ l ∧ LoopB ((w.alloc (.cells #[.slice none 0 0, .slice none 0 0] 33)).alloc (.cells #[.pointer (some ⟨w.heap.size, 0, none⟩)] 27)) l := by
      rcases List.mem_append.1 hl with hl | hl
      · obtain ⟨a1, a2, a3⟩ := HALL.out l hl
        have := a1.lt
        refine ⟨by omega, a2, a3, (a1.same (w' := w.alloc (.cells #[.slice none 0 0, .slice none 0 0] 33)) (Below.heap_alloc w _ l a1.lt)).same (Below.heap_alloc _ _ l (by simp; omega))⟩
      · simp only [List.mem_singleton] at hl
        subst hl
        refine ⟨by omega, fun e => by have := (hrow _ e).2; omega, h7, ?_⟩
        refine LoopB.same (w := w.alloc (.cells #[.slice none 0 0, .slice none 0 0] 33)) ⟨_, _, heap_alloc_new w _⟩ (Below.heap_alloc _ _ _ (by simp))
    obtain ⟨b1, b2, b3, b4⟩ := hlw
    refine ⟨b4.same (HG5.out.block l (by simp; omega) (fun e => b2 e.symm)), ?_, b3⟩
    intro e
    have e' : g5 = l := by simpa [Value.ownBlock] using e
    rcases HAT5.out with h | h
    · exact b2 (by rw [h, e'])
    · omega
  have hst := compL_store (all ++ [w.heap.size]) (ls ++ [w.heap.size]) ((ls.length : Int)) H.out HB5.out hown6 (by simp) hall
  exact ⟨rfl, hst.1, hst.2, by simp; omega⟩

set_option maxRecDepth 100000 in
set_option maxHeartbeats 1000000 in
theorem leaveLoop (base C : Nat) (all ls : List Nat) (w : World) (h : CompL w base C all ls) (hl : ls.length ≤ 1048576) (h0 : 0 < ls.length) :
    Calls Tryf.prog 27 #[.pointer (some ⟨C, 0, none⟩)] w fun e w' => e = .returned (.tuple #[]) ∧ CompL w' base C all (ls.take (ls.length - 1)) ∧ KeptC base C w w' := by
  have H := Lib.hid h
  obtain ⟨p, cap, h1, h2, h3, h4, h5, h6, h7, h8⟩ := h
  have HALL := Lib.hid h8
  clear h8
  obtain ⟨q, cap', e0, hcap, hcm⟩ := Go.Fmt.ownsRow_form h2
  simp only [Value.slice.injEq] at e0
  obtain ⟨rfl, _, rfl⟩ := e0
  obtain ⟨g, rfl, _, _⟩ := Go.Fmt.own_some h2 (by omega)
  have HO := Lib.hid (Go.Fmt.own_take h2 (n := ls.length - 1) (by omega))
  have f12 := h5 12
  have f13 := h5 13
  have s1 : (0 : Int) ≤ (ls.length : Int) - 1 := by omega
  have s2 : (ls.length : Int) - 1 ≤ (cap : Int) := by omega
  have s3 : ((ls.length : Int) - 1).toNat = ls.length - 1 := by omega
  clear h2 h5
  go_enter Tryf.func27, Tryf.ntmps27
  go_wp2
  go_region
  all_goals
    go_wp2
    go_end0
    have hown : w.ownsRow base 27 1 (.slice (some ⟨g, 0, none⟩) (ls.length - 1) cap) (ls.take (ls.length - 1)).length (ptrs (ls.take (ls.length - 1))) := by
      have e1 : (ls.take (ls.length - 1)).length = ls.length - 1 := by simp
      rw [e1, ptrs, List.map_take]
      exact HO.out
    have hst := compL_store all (ls.take (ls.length - 1)) ((ls.length : Int) - 1 - 1) H.out (Below.refl _ _) hown (by simp; omega) (fun l hl => HALL.out l hl)
    exact ⟨rfl, hst.1.drew, hst.2.drew⟩

set_option maxHeartbeats 1000000 in
theorem currentLoop (base C : Nat) (all ls : List Nat) (w : World) (h : CompL w base C all ls) (hl : ls.length ≤ 1048576) :
    Calls Tryf.prog 25 #[.pointer (some ⟨C, 0, none⟩)] w fun e w' => e = .returned (.pointer (ls.getLast?.map fun l => ⟨l, 0, none⟩)) ∧ ∃ n, w' = w.drewN n := by
  obtain ⟨p, cap, h1, h2, h3, h4, h5, h6, h7, h8⟩ := h
  clear h8 h4 h5
  by_cases h0 : ls.length = 0
  · obtain rfl : ls = [] := List.length_eq_zero_iff.1 h0
    simp only [List.length_nil] at h1 h3
    clear h2 h0
    go_enter Tryf.func25, Tryf.ntmps25
    go_wp2
    go_ret
    exact ⟨rfl, 0, rfl⟩
  · obtain ⟨g, rfl, _, _⟩ := Go.Fmt.own_some h2 (by obtain ⟨q, cap', e0, hcap, hcm⟩ := Go.Fmt.ownsRow_form h2; simp only [Value.slice.injEq] at e0; omega)
    have hx : ls.length - 1 < ls.length := by omega
    have hc : w.cell? ⟨g, ls.length - 1, none⟩ = some (.pointer (some ⟨ls[ls.length - 1], 0, none⟩)) := by
      obtain ⟨hh, ⟨e1, _⟩ | ⟨g', cap', cur, e1, k2, k3, k4, k5, k6, k7⟩⟩ := h2
      · cases e1
      · cases e1
        simp only [Nat.mul_one] at k6 k7
        have k8 : (ptrs ls)[ls.length - 1]? = some (.pointer (some ⟨ls[ls.length - 1], 0, none⟩)) := by simp [ptrs, List.getElem?_eq_getElem hx]
        rw [← k7, List.getElem?_take, if_pos hx, Array.getElem?_toList] at k8
        unfold World.cell?
        simp only [k3]
        simpa using k8
    have HL : Hid (ls.getLast? = some ls[ls.length - 1]) := Lib.hid (by rw [List.getLast?_eq_getElem?, List.getElem?_eq_getElem hx])
    generalize ls[ls.length - 1] = x at *
    have s1 : (0 : Int) ≤ (ls.length : Int) - 1 := by omega
    have s2 : (ls.length : Int) - 1 < (ls.length : Int) := by omega
    have s3 : ((ls.length : Int) - 1).toNat = ls.length - 1 := by omega
    clear h2 h0
    go_enter Tryf.func25, Tryf.ntmps25
    go_wp2
    go_quiet (fail)
    go_wp2
    go_ret
    exact ⟨by rw [HL.out]; rfl, _, rfl⟩

theorem zEnter (base C : Nat) (all ls : List Nat) (w : World) (h : CompL w base C all ls) (hl : ls.length ≤ 1048576) :
    Calls Tryf.prog 11 #[.pointer (some ⟨C, 0, none⟩)] w fun e w' => e = .returned (.pointer (some ⟨w.heap.size, 0, none⟩)) ∧ CompL w' base C (all ++ [w.heap.size]) (ls ++ [w.heap.size]) ∧ KeptC base C w w' ∧ w.heap.size < w'.heap.size := by
  have HC := Lib.hid (enterLoop base C all ls w h hl)
  go_enter Tryf.func11, Tryf.ntmps11
  go_wp2_with (fail)
  refine HC.out.mono ?_
  rintro e w' ⟨rfl, h1, h2, h3⟩
  go_wp2
  go_ret
  exact ⟨rfl, h1, h2, h3⟩
theorem zLeave (base C : Nat) (all ls : List Nat) (w : World) (h : CompL w base C all ls) (hl : ls.length ≤ 1048576) (h0 : 0 < ls.length) :
    Calls Tryf.prog 12 #[.pointer (some ⟨C, 0, none⟩)] w fun e w' => e = .returned (.tuple #[]) ∧ CompL w' base C all (ls.take (ls.length - 1)) ∧ KeptC base C w w' := by
  have HC := Lib.hid (leaveLoop base C all ls w h hl h0)
  go_enter Tryf.func12, Tryf.ntmps12
  go_wp2_with (fail)
  refine HC.out.mono ?_
  rintro e w' ⟨rfl, h1, h2⟩
  go_wp2
  go_end0
  exact ⟨rfl, h1, h2⟩
theorem zCur (base C : Nat) (all ls : List Nat) (w : World) (h : CompL w base C all ls) (hl : ls.length ≤ 1048576) :
    Calls Tryf.prog 10 #[.pointer (some ⟨C, 0, none⟩)] w fun e w' => e = .returned (.pointer (ls.getLast?.map fun l => ⟨l, 0, none⟩)) ∧ ∃ n, w' = w.drewN n := by
  have HC := Lib.hid (currentLoop base C all ls w h hl)
  go_enter Tryf.func10, Tryf.ntmps10
  go_wp2_with (fail)
  refine HC.out.mono ?_
  rintro e w' ⟨rfl, n, rfl⟩
  go_wp2
  go_ret
  exact ⟨rfl, n, rfl⟩
theorem zIdx (base C : Nat) (all ls : List Nat) (w : World) (h : CompL w base C all ls) : Calls Tryf.prog 13 #[.pointer (some ⟨C, 0, none⟩)] w fun e w' => e = .returned (.int .i64 ((ls.length : Int) - 1)) ∧ w = w' := by
  obtain ⟨p, cap, h1, h2, h3, h4, h5, h6, h7, h8⟩ := h
  clear h8 h2 h4 h5
  go_enter Tryf.func13, Tryf.ntmps13
  go_wp2
  go_ret
  exact ⟨rfl, rfl⟩
theorem zNum (base C : Nat) (all ls : List Nat) (w : World) (h : CompL w base C all ls) : Calls Tryf.prog 14 #[.pointer (some ⟨C, 0, none⟩)] w fun e w' => e = .returned (.int .i64 (ls.length : Int)) ∧ w = w' := by
  obtain ⟨p, cap, h1, h2, h3, h4, h5, h6, h7, h8⟩ := h
  clear h8 h2 h4 h5
  go_enter Tryf.func14, Tryf.ntmps14
  go_wp2
  go_ret
  exact ⟨rfl, rfl⟩

theorem last_cell (W : World) (arr : Array Value) (t : TypeId) (n j : Nat) (hn : W.heap.size = n) : (W.alloc (.cells arr t)).cell? ⟨n, j, none⟩ = arr[j]? := by
  subst hn
  unfold World.cell?
  simp only [heap_alloc_new W]
  simp
theorem last_frz (W : World) (arr : Array Value) (t : TypeId) (n j : Nat) (hn : W.heap.size = n) : (W.alloc (.cells arr t)).frozen? ⟨n, j, none⟩ = false := by
  subst hn
  unfold World.frozen?
  simp only [heap_alloc_new W]
  simp
/-- A new compiler. -/
def NewC (w : World) (e : Ending) (w' : World) : Prop :=
  ∃ C, e = .returned (.pointer (some ⟨C, 0, none⟩)) ∧ w.heap.size ≤ C ∧ C < w'.heap.size ∧ w'.cell? ⟨C, 12, none⟩ = some (.slice none 0 0) ∧ w'.cell? ⟨C, 13, none⟩ = some (.int .i64 (-1)) ∧ w'.cell? ⟨C, 14, none⟩ = some .nilIface ∧ (∀ j, w'.frozen? ⟨C, j, none⟩ = false) ∧ Below w.heap.size w w'
set_option maxRecDepth 100000 in
set_option maxHeartbeats 1000000 in
theorem newC (w : World) : Calls Tryf.prog 9 #[] w (NewC w) := by
  have hmm := @run_makeMap Tryf.prog
  go_enter Tryf.func9, Tryf.ntmps9
  go_wp2
  go_ret
  refine ⟨w.heap.size + 1 + 1 + 1 + 1 + 1, rfl, by omega, by simp, ?_, ?_, ?_, fun j => ?_, ?_⟩
  case refine_5 => exact (((((((Below.refl _ _).alloc (Nat.le_refl _) _).alloc (by simp) _).alloc (by simp; omega) _).alloc (by simp; omega) _).alloc (by simp; omega) _).alloc (by simp; omega) _)
  · exact (last_cell _ _ _ _ _ (by simp)).trans rfl
  · exact (last_cell _ _ _ _ _ (by simp)).trans rfl
  · exact (last_cell _ _ _ _ _ (by simp)).trans rfl
  · exact last_frz _ _ _ _ _ (by simp)

theorem newCL (w : World) : Calls Tryf.prog 9 #[] w fun e w' => ∃ C, e = .returned (.pointer (some ⟨C, 0, none⟩)) ∧ w.heap.size ≤ C ∧ C < w'.heap.size ∧ (∀ w2, Below w'.heap.size w' w2 → CompL w2 w2.heap.size C [] []) ∧ Below w.heap.size w w' := by
  refine (newC w).mono ?_
  rintro e w' ⟨C, rfl, h1, h2, h3, h4, h5, h6, h7⟩
  exact ⟨C, rfl, h1, h2, fun w2 hb => ⟨none, 0, (hb.cell h2).trans h3, World.ownsRow_nil _ _ _ _, (hb.cell h2).trans h4, (hb.cell h2).trans h5, fun j => (hb.frozen (p := ⟨C, j, none⟩) h2).trans (h6 j), Nat.lt_of_lt_of_le h2 hb.size, Nat.le_refl _, fun l hl => by simp at hl⟩, h7⟩
end Go.Proofs.YtiohjlnebeifaaaFmt.Lp
