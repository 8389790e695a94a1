/- The law FnFmtQPlusIsPrintableASCII: its walk. -/
import Derived.Test.YtlekmfkcbgkfgaaDoorQf
import Derived.Test.YtlekmfkcbgkfgaaDoorFrame
import Derived.Test.YtlekmfkcbgkfgaaDoorRows
import Derived.Lib.LaidU8
import Derived.KernelRfl
namespace Go.Proofs.YtlekmfkcbgkfgaaDoor.Fm
open Go.ChangeShapes Go.WideShapes Go.ChangeAt Go.RowKit Go.Fmt Go.Lib

theorem guardQ (s : ByteArray) (p : Int) (b : Bool) (w : World) : Calls Tryd.prog 4 #[.string s, .int .i64 p, .bool b] w fun e w' => e = .returned (.bool (decide ((s.size : Int) ≤ 1048576))) ∧ w = w' := by
  by_cases h : (s.size : Int) ≤ 1048576
  · have h' : ¬ (1048576 : Int) < (s.size : Int) := by omega
    rw [decide_eq_true h]
    go_enter Tryd.func4, Tryd.ntmps4
    go_wp2
    go_ret
    exact ⟨rfl, rfl⟩
  · have h' : (1048576 : Int) < (s.size : Int) := by omega
    rw [decide_eq_false h]
    go_enter Tryd.func4, Tryd.ntmps4
    go_wp2
    go_ret
    exact ⟨rfl, rfl⟩
/-- A quoted text as a string. -/
theorem quo_str {bs : List UInt8} (h : Quo bs) {g : ByteArray} (hg : g = ⟨bs.toArray⟩) : ∃ m, ∃ hm : g.size = m + 1, 1 ≤ m ∧ m ≤ 20000000 ∧ (g[0]'(by omega)).toNat = 34 ∧ (g[m]'(by omega)).toNat = 34 ∧ ∀ j (hj : j < g.size), 32 ≤ (g[j]'hj).toNat ∧ (g[j]'hj).toNat ≤ 126 := by
  subst hg
  have hs : (⟨bs.toArray⟩ : ByteArray).size = bs.length := by show bs.toArray.size = _; simp
  have h1 := h.lo
  have h2 := h.hi
  have hget : ∀ j (hj : j < (⟨bs.toArray⟩ : ByteArray).size), (⟨bs.toArray⟩ : ByteArray)[j]'hj = bs[j]'(by omega) := fun j hj => by
    show bs.toArray[j]'_ = _
    simp
  refine ⟨bs.length - 1, by omega, by omega, by omega, ?_, ?_, fun j hj => ?_⟩
  · rw [hget]
    have := h.hd
    rw [List.head?_eq_getElem?, List.getElem?_eq_getElem (by omega)] at this
    rw [Option.some.inj this]; rfl
  · rw [hget]
    have := h.lt
    rw [List.getLast?_eq_getElem?, List.getElem?_eq_getElem (by omega)] at this
    rw [Option.some.inj this]; rfl
  · rw [hget]
    exact h.pr _ (List.getElem_mem _)
theorem tabs_of {w : World} (h3 : VarReads Tryd.prog w "unicode/utf8.first" firstData) (h4 : VarReads Tryd.prog w "unicode/utf8.acceptRanges" acceptData) : Lib.Utf8Tabs 2 3 w := by
  have c5 : Tryd.prog.cellsOf 5 = 1 := by kernel_rfl
  refine ⟨fun c hc => ?_, fun i hi => ?_⟩
  · obtain ⟨g, t, cs, fuel, p, hg, hty, hvar, hd⟩ := h3
    obtain rfl := Option.some.inj ((show Tryd.prog.globalNamed "unicode/utf8.first" = some 2 by kernel_rfl).symm.trans hg)
    obtain rfl := Option.some.inj ((show (Tryd.prog.globals[2]?).map (·.type) = some 48 by kernel_rfl).symm.trans hty)
    have hcs := cells_of_tab Tryd.underlying48 Tryd.underlying5 c5 (by kernel_rfl) hd
    have := World.var?_cell hg hvar c
    rw [this, ← Array.getElem?_toList, hcs]
    simp [firstTab, hc]
  · obtain ⟨g, t, cs, fuel, p, hg, hty, hvar, hd⟩ := h4
    obtain rfl := Option.some.inj ((show Tryd.prog.globalNamed "unicode/utf8.acceptRanges" = some 3 by kernel_rfl).symm.trans hg)
    obtain rfl := Option.some.inj ((show (Tryd.prog.globals[3]?).map (·.type) = some 51 by kernel_rfl).symm.trans hty)
    obtain ⟨fuel', d, q, hdi, he⟩ := array_elem Tryd.underlying51 hd i hi
    simp only [List.getElem?_map, List.getElem?_range hi, Option.map_some, Option.some.injEq] at hdi
    subst hdi
    have c2 : Tryd.prog.cellsOf 50 = 2 := by kernel_rfl
    rw [c2] at he
    have hcs := ints_of_struct Tryd.underlying50 (fun j f hj => by
      match j, hj with
      | 0, hj => simp at hj; subst hj; exact ⟨Tryd.underlying5, rfl, c5⟩
      | 1, hj => simp at hj; subst hj; exact ⟨Tryd.underlying5, rfl, c5⟩
      | j + 2, hj => simp at hj) (by rw [c2]; rfl) he
    have e0 := congrArg (·[0]?) hcs
    have e1 := congrArg (·[1]?) hcs
    simp only [List.getElem?_take, List.getElem?_drop] at e0 e1
    constructor
    · rw [World.var?_cell hg hvar (2 * i), ← Array.getElem?_toList]
      simpa [Nat.mul_comm] using e0
    · rw [World.var?_cell hg hvar (2 * i + 1), ← Array.getElem?_toList]
      simpa [Nat.mul_comm] using e1
theorem tabs_laid {w : World} {l : List (String × DataW Unit)} (h : laidMet Tryd.prog l w) (h1 : ("unicode/utf8.acceptRanges", Rows.laid_unicode_utf8_acceptRanges) ∈ l) (h2 : ("unicode/utf8.first", Rows.laid_unicode_utf8_first) ∈ l) : Lib.Utf8Tabs 2 3 w := by
  have e : Rows.laid_unicode_utf8_first = firstData := by kernel_rfl
  have e2 : (Rows.laid_unicode_utf8_acceptRanges : DataW Unit) = acceptData := by kernel_rfl
  rw [e] at h2
  rw [e2] at h1
  exact tabs_of (laidMet.reads h h2) (laidMet.reads h h1)

set_option maxRecDepth 100000 in
set_option maxHeartbeats 2000000 in
theorem lawQ (s : ByteArray) (prec : Int) (pp : Bool) (w : World) (hg1 : w.cell? ⟨0, 0, none⟩ = some (.int .i64 2147483647)) (hU : Lib.Utf8Tabs 2 3 w) (hp : I64 prec) :
    Calls Tryd.prog 3 #[.string s, .int .i64 prec, .bool pp] w fun e w' => e = .returned (.bool true) ∧ Below w.heap.size w w' := by
  by_cases hs : s.size ≤ 1048576
  · have hq := Lib.hid (zzFmtQ s prec pp w hg1 hU hs hp)
    have hs1 : decide ((s.size : Int) ≤ 1048576) = true := decide_eq_true (by omega)
    have hs2 : ¬ (1048576 : Int) < (s.size : Int) := by omega
    clear hg1 hU hs hp
    go_enter Tryd.func3, Tryd.ntmps3
    go_wp2_with (fail)
    refine (guardQ s prec pp w).mono ?_
    rintro e w' ⟨rfl, rfl⟩
    rw [hs1]
    go_wp2_with (fail)
    refine hq.out.mono ?_
    rintro e w1 ⟨bs, hqb, rfl, hb1⟩
    obtain ⟨g, hg⟩ : ∃ g : ByteArray, g = ⟨bs.toArray⟩ := ⟨_, rfl⟩
    obtain ⟨m, hm, h1, h2, h3, h4, h5⟩ := quo_str hqb hg
    rw [← hg]
    have HB1 := Lib.hid hb1
    have H5 := Lib.hid h5
    clear h5 hb1 hqb hg hs1 hs2
    go_wp2_with (fail)
    go_loopw [8] (fun vi wr => ∃ i : Nat, vi = .int .i64 i ∧ i ≤ m + 1 ∧ wr = w1) (fun vi _ => match vi with | .int _ z => m + 1 - z.toNat | _ => 0)
    case atStart => exact ⟨0, rfl, by omega, by simp⟩
    case round =>
      obtain ⟨i, rfl, hi, rfl⟩ := hrel
      by_cases hlt : i < m + 1
      · have hlt' : (i : Int) < (m : Int) + 1 := by omega
        obtain ⟨k1, k2⟩ := H5.out i (by omega)
        have k1' : ¬ ((g[i].toNat : Nat) : Int) < 32 := by omega
        have k2' : ¬ 126 < ((g[i].toNat : Nat) : Int) := by omega
        clear k1 k2
        go_wp2_with (fail)
        go_roundw
        case rel => exact ⟨i + 1, by simp, by omega, by simp⟩
        case measure => simp only []; omega
      · have hlt' : ¬ (i : Int) < (m : Int) + 1 := by omega
        go_wp2
        go_ret
        exact ⟨rfl, HB1.out⟩
  · have hs1 : decide ((s.size : Int) ≤ 1048576) = false := decide_eq_false (by omega)
    clear hg1 hU hp
    go_enter Tryd.func3, Tryd.ntmps3
    go_wp2_with (fail)
    refine (guardQ s prec pp w).mono ?_
    rintro e w' ⟨rfl, rfl⟩
    rw [hs1]
    go_wp2
    go_ret
    exact ⟨rfl, Below.refl _ _⟩
end Go.Proofs.YtlekmfkcbgkfgaaDoor.Fm
namespace Go.Proofs.YtlekmfkcbgkfgaaDoor
open Go.Proofs.YtlekmfkcbgkfgaaDoor.Fm Go.RowKit
theorem fnFmtQPlusIsPrintableASCII.walk (a0 : ByteArray) (a1 : Int) (a2 : Bool) (w : World) (_w0 : a0.size ≤ 140737488351232) (w1 : (Lit.int .i64 a1).wf = true) (hL : laidMetH Tryd.prog Rows.fnFmtQPlusIsPrintableASCIIRow.laid w) :
    Calls Tryd.prog 3 #[.string a0, .int .i64 a1, .bool a2] w fun e w' => e = .returned (.bool true) ∧ Below w.heap.size w w' := by
  rw [MakeChecks.laidMetH_plain _ _ _ (by kernel_rfl)] at hL
  refine lawQ a0 a1 a2 w ?_ ?_ ?_
  · exact LawFrame.laid_int hL (List.mem_cons_of_mem _ (List.mem_cons_of_mem _ (List.mem_cons_self ..))) (by kernel_rfl) (by kernel_rfl) Tryd.underlying3
  · exact tabs_laid hL (List.mem_cons_self ..) (by unfold Rows.fnFmtQPlusIsPrintableASCIIRow; simp)
  · simp [Lit.wf, IntKind.min, IntKind.max, IntKind.signed, IntKind.bits] at w1
    unfold Go.Fmt.I64
    omega
end Go.Proofs.YtlekmfkcbgkfgaaDoor
