/- utf8.DecodeRune: the shelf's contract at this program; the two tables that it reads, out of what a row lists. -/
import Derived.Shelf.Spec.DecodeRune
import Derived.Lib.LaidU8
import Derived.PinnedBridge
import Derived.Test.YtcfllmebcfimeaaDoorRows
import Derived.KernelRfl
namespace Go.Proofs.YtcfllmebcfimeaaDoor.Fm
open Go.Shelf Go.RowKit Go.Lib
def decRen : Ren := ⟨fun | 32 => 57 | 49 => 63 | n => n, fun | 0 => 0 | 3 => 3 | 4 => 4 | 5 => 5 | 21 => 21 | 25 => 72 | 30 => 22 | 33 => 68 | 66 => 76 | 68 => 78 | 69 => 79 | n => n, fun | 2 => 2 | 3 => 3 | n => n⟩
theorem decLays : Go.Proofs.Lays7.n32 Tryd.prog decRen := {
  mixed := by kernel_rfl
  f32 := Tryd.func57.trans (congrArg some (by kernel_rfl))
  f49 := Tryd.func63.trans (congrArg some (by kernel_rfl))
  t0 := Tryd.underlying0
  a0 := Tryd.isAgg0
  z0 := Tryd.sizeOf0
  v0 := fun w => by first | exact Tryd.zeroValue0 w | kernel_rfl
  i0 := by kernel_rfl
  t3 := Tryd.underlying3
  a3 := Tryd.isAgg3
  z3 := Tryd.sizeOf3
  v3 := fun w => by first | exact Tryd.zeroValue3 w | kernel_rfl
  i3 := by kernel_rfl
  t4 := Tryd.underlying4
  a4 := Tryd.isAgg4
  z4 := Tryd.sizeOf4
  v4 := fun w => by first | exact Tryd.zeroValue4 w | kernel_rfl
  i4 := by kernel_rfl
  t5 := Tryd.underlying5
  a5 := Tryd.isAgg5
  z5 := Tryd.sizeOf5
  v5 := fun w => by first | exact Tryd.zeroValue5 w | kernel_rfl
  i5 := by kernel_rfl
  t21 := Tryd.underlying21
  a21 := Tryd.isAgg21
  z21 := Tryd.sizeOf21
  v21 := fun w => by first | exact Tryd.zeroValue21 w | kernel_rfl
  i21 := by kernel_rfl
  t25 := Tryd.underlying72
  a25 := Tryd.isAgg72
  z25 := Tryd.sizeOf72
  v25 := fun w => by first | exact Tryd.zeroValue72 w | kernel_rfl
  i25 := by kernel_rfl
  t30 := Tryd.underlying22
  a30 := Tryd.isAgg22
  z30 := Tryd.sizeOf22
  v30 := fun w => by first | exact Tryd.zeroValue22 w | kernel_rfl
  i30 := by kernel_rfl
  t33 := Tryd.underlying68
  a33 := Tryd.isAgg68
  z33 := Tryd.sizeOf68
  v33 := fun w => by first | exact Tryd.zeroValue68 w | kernel_rfl
  i33 := by kernel_rfl
  t66 := Tryd.underlying76
  a66 := Tryd.isAgg76
  z66 := Tryd.sizeOf76
  t68 := Tryd.underlying78
  a68 := Tryd.isAgg78
  z68 := Tryd.sizeOf78
  v68 := fun w => by first | exact Tryd.zeroValue78 w | kernel_rfl
  i68 := by kernel_rfl
  t69 := Tryd.underlying79
  a69 := Tryd.isAgg79
  z69 := Tryd.sizeOf79
  v69 := fun w => by first | exact Tryd.zeroValue79 w | kernel_rfl
  i69 := by kernel_rfl
  g2 := by kernel_rfl
  g3 := by kernel_rfl }
/-- DecodeRune at a slice of bytes that is not nil. -/
theorem decodeRune (s : ByteArray) (b off cap : Nat) (w : World) (hT : Lib.Utf8Tabs 2 3 w) (hp : ∀ j, j < s.size → w.cell? ⟨b, off + j, none⟩ = some (.int .u8 (s.get! j).toNat)) :
    Calls Tryd.prog 57 #[.slice (some ⟨b, off, none⟩) s.size cap] w fun e w' => e = .returned (.tuple #[.int .i32 (Lib.decodeGo s).1, .int .i64 (Lib.decodeGo s).2]) ∧ Below w.heap.size w w' :=
  Go.Proofs.Any7.utf8_DecodeRune decLays s b off cap w hT hp

theorem tabs_of {w : World} (h3 : VarReads Tryd.prog w "unicode/utf8.first" firstData) (h4 : VarReads Tryd.prog w "unicode/utf8.acceptRanges" acceptData) : Lib.Utf8Tabs 2 3 w := by
  have c5 : Tryd.prog.cellsOf 5 = 1 := by kernel_rfl
  refine ⟨fun c hc => ?_, fun i hi => ?_⟩
  · obtain ⟨g, t, cs, fuel, p, hg, hty, hvar, hd⟩ := h3
    obtain rfl := Option.some.inj ((show Tryd.prog.globalNamed "unicode/utf8.first" = some 2 by kernel_rfl).symm.trans hg)
    obtain rfl := Option.some.inj ((show (Tryd.prog.globals[2]?).map (·.type) = some 76 by kernel_rfl).symm.trans hty)
    have hcs := cells_of_tab Tryd.underlying76 Tryd.underlying5 c5 (by kernel_rfl) hd
    have := World.var?_cell hg hvar c
    rw [this, ← Array.getElem?_toList, hcs]
    simp [firstTab, hc]
  · obtain ⟨g, t, cs, fuel, p, hg, hty, hvar, hd⟩ := h4
    obtain rfl := Option.some.inj ((show Tryd.prog.globalNamed "unicode/utf8.acceptRanges" = some 3 by kernel_rfl).symm.trans hg)
    obtain rfl := Option.some.inj ((show (Tryd.prog.globals[3]?).map (·.type) = some 79 by kernel_rfl).symm.trans hty)
    obtain ⟨fuel', d, q, hdi, he⟩ := array_elem Tryd.underlying79 hd i hi
    simp only [List.getElem?_map, List.getElem?_range hi, Option.map_some, Option.some.injEq] at hdi
    subst hdi
    have c2 : Tryd.prog.cellsOf 78 = 2 := by kernel_rfl
    rw [c2] at he
    have hcs := ints_of_struct Tryd.underlying78 (fun j f hj => by
      match j, hj with
      | 0, hj => simp at hj; subst hj; exact ⟨Tryd.underlying5, rfl, c5⟩
      | 1, hj => simp at hj; subst hj; exact ⟨Tryd.underlying5, rfl, c5⟩
      | j + 2, hj => simp at hj) (by rw [c2]; rfl) he
    have e0 := congrArg (·[0]?) hcs
    have e1 := congrArg (·[1]?) hcs
    simp only [List.getElem?_take, List.getElem?_drop] at e0 e1
    constructor
    · rw [World.var?_cell hg hvar (2 * i), ← Array.getElem?_toList]
      simpa [Nat.mul_comm] using e0
    · rw [World.var?_cell hg hvar (2 * i + 1), ← Array.getElem?_toList]
      simpa [Nat.mul_comm] using e1
theorem accept_eq : (Rows.laid_unicode_utf8_acceptRanges : DataW Unit) = acceptData := by kernel_rfl
/-- The two tables, out of a list that holds them. -/
theorem tabs_laid {w : World} {l : List (String × DataW Unit)} (h : laidMet Tryd.prog l w) (h1 : ("unicode/utf8.acceptRanges", Rows.laid_unicode_utf8_acceptRanges) ∈ l) (h2 : ("unicode/utf8.first", Rows.laid_unicode_utf8_first) ∈ l) : Lib.Utf8Tabs 2 3 w := by
  have e : Rows.laid_unicode_utf8_first = firstData := Pinned.utf8First_eq
  rw [e] at h2
  rw [accept_eq] at h1
  exact tabs_of (laidMet.reads h h2) (laidMet.reads h h1)
theorem tabs_below {w w' : World} {N : Nat} (hb : Below N w w') (h1 : 2 < N) (h2 : 3 < N) (h : Lib.Utf8Tabs 2 3 w) : Lib.Utf8Tabs 2 3 w' :=
  ⟨fun c hc => (hb.cell (p := ⟨2, c, none⟩) h1).trans (h.1 c hc), fun i hi => ⟨(hb.cell (p := ⟨3, 2 * i, none⟩) h2).trans (h.2 i hi).1, (hb.cell (p := ⟨3, 2 * i + 1, none⟩) h2).trans (h.2 i hi).2⟩⟩
end Go.Proofs.YtcfllmebcfimeaaDoor.Fm
