/- A new formatter with the given flags over a new, nil buffer. -/
import Derived.Test.YtlekmfkcbgkfgaaDoorFmt
namespace Go.Proofs.YtlekmfkcbgkfgaaDoor.Fm
open Go.ChangeShapes Go.WideShapes Go.ChangeAt Go.RowKit Go.Fmt

theorem FmtAt.of_block {w : World} {F : Nat} {t : TypeId} {a : Addr} {f : Flags} {arr : Array Value} (h : w.heap[F]? = some (.cells arr t (0, 0))) (hs : arr.size = 83)
    (h0 : arr[0]? = some (.pointer (some a))) (h1 : arr[1]? = some (.bool f.widP)) (h2 : arr[2]? = some (.bool f.precP)) (h3 : arr[3]? = some (.bool f.minus)) (h4 : arr[4]? = some (.bool f.plus)) (h5 : arr[5]? = some (.bool f.sharp))
    (h6 : arr[6]? = some (.bool f.space)) (h7 : arr[7]? = some (.bool f.zero)) (h13 : arr[13]? = some (.int .i64 f.wid)) (h14 : arr[14]? = some (.int .i64 f.prec)) : FmtAt w F a f := by
  have hc : ∀ j, w.cell? ⟨F, j, none⟩ = arr[j]? := fun j => by simp [World.cell?, h]
  exact ⟨(hc 0).trans h0, (hc 1).trans h1, (hc 2).trans h2, (hc 3).trans h3, (hc 4).trans h4, (hc 5).trans h5, (hc 6).trans h6, (hc 7).trans h7, (hc 13).trans h13, (hc 14).trans h14,
    fun j _ h2 => ⟨arr[j], by rw [hc, Array.getElem?_eq_getElem (by omega)]⟩, fun j => by simp [World.frozen?, h]⟩

/-- The cells of a formatter's zero value. -/
def zcells : Array Value := #[.pointer none, .bool false, .bool false, .bool false, .bool false, .bool false, .bool false, .bool false, .bool false, .bool false, .bool false, .bool false, .bool false, .int .i64 0, .int .i64 0, .int .u8 0, .int .u8 0, .int .u8 0, .int .u8 0, .int .u8 0, .int .u8 0, .int .u8 0, .int .u8 0, .int .u8 0, .int .u8 0, .int .u8 0, .int .u8 0, .int .u8 0, .int .u8 0, .int .u8 0, .int .u8 0, .int .u8 0, .int .u8 0, .int .u8 0, .int .u8 0, .int .u8 0, .int .u8 0, .int .u8 0, .int .u8 0, .int .u8 0, .int .u8 0, .int .u8 0, .int .u8 0, .int .u8 0, .int .u8 0, .int .u8 0, .int .u8 0, .int .u8 0, .int .u8 0, .int .u8 0, .int .u8 0, .int .u8 0, .int .u8 0, .int .u8 0, .int .u8 0, .int .u8 0, .int .u8 0, .int .u8 0, .int .u8 0, .int .u8 0, .int .u8 0, .int .u8 0, .int .u8 0, .int .u8 0, .int .u8 0, .int .u8 0, .int .u8 0, .int .u8 0, .int .u8 0, .int .u8 0, .int .u8 0, .int .u8 0, .int .u8 0, .int .u8 0, .int .u8 0, .int .u8 0, .int .u8 0, .int .u8 0, .int .u8 0, .int .u8 0, .int .u8 0, .int .u8 0, .int .u8 0]
theorem zcells_size : zcells.size = 83 := by kernel_rfl
theorem zcells_ne : ¬ zcells = #[] := fun h => by have := congrArg Array.size h; rw [zcells_size] at this; simp at this
theorem zeroF (w : World) : (zeroValue 32).run Tryd.prog w = .ok (.agg zcells) w := by kernel_rfl
/-- A formatter written out as a literal over a new buffer variable. -/
theorem litLive (w : World) (f : Flags) (arr : Array Value) (hM : 0 < w.heap.size) (hs : arr.size = 83)
    (h0 : arr[0]? = some (.pointer (some ⟨w.heap.size, 0, none⟩))) (h1 : arr[1]? = some (.bool f.widP)) (h2 : arr[2]? = some (.bool f.precP)) (h3 : arr[3]? = some (.bool f.minus)) (h4 : arr[4]? = some (.bool f.plus)) (h5 : arr[5]? = some (.bool f.sharp))
    (h6 : arr[6]? = some (.bool f.space)) (h7 : arr[7]? = some (.bool f.zero)) (h13 : arr[13]? = some (.int .i64 f.wid)) (h14 : arr[14]? = some (.int .i64 f.prec)) :
    Live ((w.alloc (.cells #[.slice none 0 0] 25)).alloc (.cells arr 32)) w.heap.size (w.heap.size + 2) (w.heap.size + 1) w.heap.size f [] := by
  refine ⟨by omega, Nat.le_refl _, by omega, by omega, hM, FmtAt.of_block (t := 32) (arr := arr) ?_ hs h0 h1 h2 h3 h4 h5 h6 h7 h13 h14, Buf.of_nil ?_ ?_ (by show w.heap.size < w.heap.size + 2; omega) (by simp)⟩
  · have := heap_alloc_new (w.alloc (.cells #[.slice none 0 0] 25)) (.cells arr 32)
    rw [show (w.alloc (.cells #[.slice none 0 0] 25)).heap.size = w.heap.size + 1 by simp] at this
    exact this
  · simp
  · simp
end Go.Proofs.YtlekmfkcbgkfgaaDoor.Fm
