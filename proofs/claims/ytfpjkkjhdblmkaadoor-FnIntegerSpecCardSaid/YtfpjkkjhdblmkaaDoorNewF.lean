/- A new formatter with the given flags over a new, nil buffer. -/
import Derived.Test.YtfpjkkjhdblmkaaDoorFmt
namespace Go.Proofs.YtfpjkkjhdblmkaaDoor.Fm
open Go.ChangeShapes Go.WideShapes Go.ChangeAt Go.RowKit Go.Fmt

theorem FmtAt.of_block {w : World} {F : Nat} {t : TypeId} {a : Addr} {f : Flags} {arr : Array Value} (h : w.heap[F]? = some (.cells arr t (0, 0))) (hs : arr.size = 83)
    (h0 : arr[0]? = some (.pointer (some a))) (h1 : arr[1]? = some (.bool f.widP)) (h2 : arr[2]? = some (.bool f.precP)) (h3 : arr[3]? = some (.bool f.minus)) (h4 : arr[4]? = some (.bool f.plus)) (h5 : arr[5]? = some (.bool f.sharp))
    (h6 : arr[6]? = some (.bool f.space)) (h7 : arr[7]? = some (.bool f.zero)) (h13 : arr[13]? = some (.int .i64 f.wid)) (h14 : arr[14]? = some (.int .i64 f.prec)) : FmtAt w F a f := by
  have hc : ∀ j, w.cell? ⟨F, j, none⟩ = arr[j]? := fun j => by simp [World.cell?, h]
  exact ⟨(hc 0).trans h0, (hc 1).trans h1, (hc 2).trans h2, (hc 3).trans h3, (hc 4).trans h4, (hc 5).trans h5, (hc 6).trans h6, (hc 7).trans h7, (hc 13).trans h13, (hc 14).trans h14,
    fun j _ h2 => ⟨arr[j], by rw [hc, Array.getElem?_eq_getElem (by omega)]⟩, fun j => by simp [World.frozen?, h]⟩

/-- What a new formatter leaves: the formatter in block F, its buffer nil, nothing else turned. -/
def NewFmt (w : World) (f : Flags) (e : Ending) (w' : World) : Prop :=
  ∃ F B, e = .returned (.pointer (some ⟨F, 0, none⟩)) ∧ w.heap.size ≤ F ∧ w.heap.size ≤ B ∧ F ≠ B ∧ FmtAt w' F ⟨B, 0, none⟩ f ∧ w'.cell? ⟨B, 0, none⟩ = some (.slice none 0 0) ∧ w'.frozen? ⟨B, 0, none⟩ = false ∧ F < w'.heap.size ∧ B < w'.heap.size ∧ Below w.heap.size w w'

/-- The cells of a formatter's zero value. -/
def zcells : Array Value := #[.pointer none, .bool false, .bool false, .bool false, .bool false, .bool false, .bool false, .bool false, .bool false, .bool false, .bool false, .bool false, .bool false, .int .i64 0, .int .i64 0, .int .u8 0, .int .u8 0, .int .u8 0, .int .u8 0, .int .u8 0, .int .u8 0, .int .u8 0, .int .u8 0, .int .u8 0, .int .u8 0, .int .u8 0, .int .u8 0, .int .u8 0, .int .u8 0, .int .u8 0, .int .u8 0, .int .u8 0, .int .u8 0, .int .u8 0, .int .u8 0, .int .u8 0, .int .u8 0, .int .u8 0, .int .u8 0, .int .u8 0, .int .u8 0, .int .u8 0, .int .u8 0, .int .u8 0, .int .u8 0, .int .u8 0, .int .u8 0, .int .u8 0, .int .u8 0, .int .u8 0, .int .u8 0, .int .u8 0, .int .u8 0, .int .u8 0, .int .u8 0, .int .u8 0, .int .u8 0, .int .u8 0, .int .u8 0, .int .u8 0, .int .u8 0, .int .u8 0, .int .u8 0, .int .u8 0, .int .u8 0, .int .u8 0, .int .u8 0, .int .u8 0, .int .u8 0, .int .u8 0, .int .u8 0, .int .u8 0, .int .u8 0, .int .u8 0, .int .u8 0, .int .u8 0, .int .u8 0, .int .u8 0, .int .u8 0, .int .u8 0, .int .u8 0, .int .u8 0, .int .u8 0]
theorem zcells_size : zcells.size = 83 := by kernel_rfl
theorem zcells_ne : ¬ zcells = #[] := fun h => by have := congrArg Array.size h; rw [zcells_size] at this; simp at this
theorem zeroF (w : World) : (zeroValue 44).run Tryd.prog w = .ok (.agg zcells) w := by kernel_rfl
set_option maxRecDepth 100000 in
set_option maxHeartbeats 2000000 in
theorem newFormatter (f : Flags) (w : World) :
    Calls Tryd.prog 7 #[.bool f.widP, .int .i64 f.wid, .bool f.precP, .int .i64 f.prec, .bool f.minus, .bool f.plus, .bool f.sharp, .bool f.space, .bool f.zero] w (NewFmt w f) := by
  have hzf := zeroF
  have hzs := zcells_size
  have hzn := zcells_ne
  go_enter Tryd.func7, Tryd.ntmps7
  go_wp2
  go_end0
  go_wp2
  go_end0
  go_wp2
  go_ret
  have hz := zcells_size
  refine ⟨w.heap.size, w.heap.size + 1, rfl, Nat.le_refl _, by omega, by omega, FmtAt.of_block (t := 44) ((Below.heap_alloc _ _ _ (by simp)).trans (heap_alloc_new w _)) ?_ ?_ ?_ ?_ ?_ ?_ ?_ ?_ ?_ ?_ ?_, by simp, by simp, by simp; omega, by simp, ((Below.refl _ _).alloc (Nat.le_refl _) _).alloc (by simp) _⟩
  · simp [hz]
  all_goals simp [hz]

theorem newF (f : Flags) (wp : Bool) (wid : Int) (pp : Bool) (prec : Int) (mi pl sh sp ze : Bool) (h : f = ⟨wp, pp, mi, pl, sh, sp, ze, wid, prec⟩) (w : World) :
    Calls Tryd.prog 7 #[.bool wp, .int .i64 wid, .bool pp, .int .i64 prec, .bool mi, .bool pl, .bool sh, .bool sp, .bool ze] w (NewFmt w f) := by
  subst h
  exact newFormatter _ w

/-- A formatter written out as a literal over a new buffer variable. -/
theorem litLive (w : World) (f : Flags) (arr : Array Value) (hM : 0 < w.heap.size) (hs : arr.size = 83)
    (h0 : arr[0]? = some (.pointer (some ⟨w.heap.size, 0, none⟩))) (h1 : arr[1]? = some (.bool f.widP)) (h2 : arr[2]? = some (.bool f.precP)) (h3 : arr[3]? = some (.bool f.minus)) (h4 : arr[4]? = some (.bool f.plus)) (h5 : arr[5]? = some (.bool f.sharp))
    (h6 : arr[6]? = some (.bool f.space)) (h7 : arr[7]? = some (.bool f.zero)) (h13 : arr[13]? = some (.int .i64 f.wid)) (h14 : arr[14]? = some (.int .i64 f.prec)) :
    Live ((w.alloc (.cells #[.slice none 0 0] 47)).alloc (.cells arr 44)) w.heap.size (w.heap.size + 2) (w.heap.size + 1) w.heap.size f [] := by
  refine ⟨by omega, Nat.le_refl _, by omega, by omega, hM, FmtAt.of_block (t := 44) (arr := arr) ?_ hs h0 h1 h2 h3 h4 h5 h6 h7 h13 h14, Buf.of_nil ?_ ?_ (by show w.heap.size < w.heap.size + 2; omega) (by simp)⟩
  · have := heap_alloc_new (w.alloc (.cells #[.slice none 0 0] 47)) (.cells arr 44)
    rw [show (w.alloc (.cells #[.slice none 0 0] 47)).heap.size = w.heap.size + 1 by simp] at this
    exact this
  · simp
  · simp
end Go.Proofs.YtfpjkkjhdblmkaaDoor.Fm
