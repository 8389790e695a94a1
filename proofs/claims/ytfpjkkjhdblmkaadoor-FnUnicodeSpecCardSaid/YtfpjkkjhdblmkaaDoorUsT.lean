/- The print tables: what strconv.IsPrint says of two ranges; the tables behind later stores. -/
import Derived.Test.YtfpjkkjhdblmkaaDoorUsL
import Derived.Test.YtfpjkkjhdblmkaaDoorShelfP
import Derived.Lib.PrintData
import Derived.Lib.LaidPrint
import GoSem.PinnedTables
import Derived.KernelRfl
namespace Go.Proofs.YtfpjkkjhdblmkaaDoor.Fm
open Go.ChangeShapes Go.WideShapes Go.ChangeAt Go.RowKit Go.Fmt Go.Num Go.Lib

theorem bsFrom_congr (t : List Nat) (v v' : Nat) (h : ∀ k, t.getD k 0 < v ↔ t.getD k 0 < v') : ∀ fuel i j, bsearchFrom t v fuel i j = bsearchFrom t v' fuel i j
  | 0, _, _ => rfl
  | fuel + 1, i, j => by
    unfold bsearchFrom
    split
    · have hk := h (i + (j - i) / 2)
      by_cases hc : t.getD (i + (j - i) / 2) 0 < v
      · rw [if_pos hc, if_pos (hk.1 hc)]; exact bsFrom_congr t v v' h fuel _ _
      · rw [if_neg hc, if_neg (fun e => hc (hk.2 e))]; exact bsFrom_congr t v v' h fuel _ _
    · rfl
theorem bs_congr (t : List Nat) (lo hi v v' : Nat) (h : t.all (fun x => decide (x < lo) || decide (hi ≤ x)) = true) (h0 : 0 < lo) (a1 : lo ≤ v) (a2 : v ≤ hi) (b1 : lo ≤ v') (b2 : v' ≤ hi) : bsearchI t v = bsearchI t v' := by
  refine bsFrom_congr t v v' (fun k => ?_) _ _ _
  have hk : t.getD k 0 < lo ∨ hi ≤ t.getD k 0 := by
    by_cases hl : k < t.length
    · rw [List.getD_eq_getElem?_getD, List.getElem?_eq_getElem hl]
      have := List.all_eq_true.1 h _ (List.getElem_mem hl)
      simpa using this
    · rw [List.getD_eq_getElem?_getD, List.getElem?_eq_none (by omega)]
      exact .inl h0
  omega
set_option maxRecDepth 100000 in
theorem pr_low (m : Nat) (h1 : 256 ≤ m) (h2 : m ≤ 383) : isPrintR goPrintTabs m = true := by
  have e1 : bsearchI goPrintTabs.p16 m = 3 := (bs_congr _ 256 384 m 256 (by decide +kernel) (by decide) h1 (by omega) (by decide) (by decide)).trans (by decide +kernel)
  have e2 : bsearchI goPrintTabs.n16 m = 1 := (bs_congr _ 256 384 m 256 (by decide +kernel) (by decide) h1 (by omega) (by decide) (by decide)).trans (by decide +kernel)
  have g1 : goPrintTabs.p16.getD 2 0 = 161 := by decide +kernel
  have g2 : goPrintTabs.p16.getD 3 0 = 887 := by decide +kernel
  have g3 : goPrintTabs.n16.getD 1 0 = 907 := by decide +kernel
  have l1 : goPrintTabs.p16.length = 412 := by decide +kernel
  unfold isPrintR
  rw [if_neg (by omega), if_pos (by omega), Int.toNat_natCast]
  unfold outOfRanges bsearchFound
  rw [e1, e2, l1, show 3 / 2 * 2 = 2 from rfl, g1, show 2 + 1 = 3 from rfl, g2, g3]
  rw [if_neg (by simp; omega)]
  simp
  omega
set_option maxRecDepth 100000 in
theorem pr_sur (m : Nat) (h1 : 55296 ≤ m) (h2 : m ≤ 57343) : isPrintR goPrintTabs m = false := by
  have e1 : bsearchI goPrintTabs.p16 m = 382 := (bs_congr _ 55296 57344 m 55296 (by decide +kernel) (by decide) h1 (by omega) (by decide) (by decide)).trans (by decide +kernel)
  have g1 : goPrintTabs.p16.getD 382 0 = 63744 := by decide +kernel
  unfold isPrintR
  rw [if_neg (by omega), if_pos (by omega), Int.toNat_natCast]
  unfold outOfRanges
  rw [e1, show 382 / 2 * 2 = 382 from rfl, g1]
  rw [if_pos (by simp; omega)]
theorem pr_scalar (m : Nat) (h : m ≤ 1114111) (hp : isPrintR goPrintTabs m = true) : Scalar m := by
  refine ⟨by omega, by omega, fun hs => ?_⟩
  rw [pr_sur m (by omega) (by omega)] at hp
  cases hp
theorem pr_latin (m : Nat) (h : m ≤ 255) : isPrintR goPrintTabs m = isPrintLatin m := by
  unfold isPrintR; rw [if_pos (by omega)]

theorem tab_below {g : Nat} {k : IntKind} {t : List Nat} {w w' : World} (h : TabSlice g k t w) (hb : Below w.heap.size w w') : TabSlice g k t w' := by
  obtain ⟨R, o, c, h1, h2⟩ := h
  exact ⟨R, o, c, (hb.cell (World.block_lt_of_cell? w _ h1)).trans h1, fun j hj => (hb.cell (World.block_lt_of_cell? w _ (h2 j hj))).trans (h2 j hj)⟩
theorem tabs_below {a b c d : Nat} {T : PrintTabs} {w w' : World} (h : PrintTabsAt a b c d T w) (hb : Below w.heap.size w w') : PrintTabsAt a b c d T w' :=
  ⟨tab_below h.1 hb, tab_below h.2.1 hb, tab_below h.2.2.1 hb, tab_below h.2.2.2.1 hb, h.2.2.2.2⟩
set_option maxRecDepth 100000 in
theorem tabs_laid {laid : List (String × DataW Unit)} {w : World} (h : laidMet Tryd.prog laid w) (m1 : ("strconv.isPrint16", Go.Pinned.isPrint16) ∈ laid) (m2 : ("strconv.isNotPrint16", Go.Pinned.isNotPrint16) ∈ laid)
    (m3 : ("strconv.isPrint32", Go.Pinned.isPrint32) ∈ laid) (m4 : ("strconv.isNotPrint32", Go.Pinned.isNotPrint32) ∈ laid) : PrintTabsAt 2 3 4 5 goPrintTabs w := by
  have r1 := laidMet.reads h m1
  have r2 := laidMet.reads h m2
  have r3 := laidMet.reads h m3
  have r4 := laidMet.reads h m4
  rw [show Go.Pinned.isPrint16 = sliceData .u16 goPrintTabs.p16 by kernel_rfl] at r1
  rw [show Go.Pinned.isNotPrint16 = sliceData .u16 goPrintTabs.n16 by kernel_rfl] at r2
  rw [show Go.Pinned.isPrint32 = sliceData .u32 goPrintTabs.p32 by kernel_rfl] at r3
  rw [show Go.Pinned.isNotPrint32 = sliceData .u16 goPrintTabs.n32 by kernel_rfl] at r4
  exact printTabs_of_reads (ρ := Tryd.lays339_ren) Tryd.lays339 ⟨by kernel_rfl, by kernel_rfl, by kernel_rfl, by kernel_rfl, by kernel_rfl, by kernel_rfl, by kernel_rfl, by kernel_rfl, by kernel_rfl, by kernel_rfl⟩ r1 r2 r3 r4
end Go.Proofs.YtfpjkkjhdblmkaaDoor.Fm
