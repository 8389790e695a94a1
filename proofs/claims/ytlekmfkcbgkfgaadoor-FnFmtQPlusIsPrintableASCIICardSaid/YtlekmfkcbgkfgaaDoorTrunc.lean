/- The formatter's truncateString: the first 'prec' runes of a string. -/
import Derived.Test.YtlekmfkcbgkfgaaDoorFmt
import Derived.Laws.RangeString
import Derived.Laws.RangeAny
import Derived.LoopTactic
import Derived.Deep.LoopGhost
import Derived.Lib.Hide
namespace Go.Fmt
open Go.RowKit

/-- How many runes a precision lets through: all of them at the least int, whose predecessor wraps round. -/
def precK (m : Int) : Nat := if m = -9223372036854775808 then 9223372036854775808 else m.toNat
/-- Where the k-th rune from 'pos' on begins (or the end). -/
def offB (s : ByteArray) : Nat → Nat → Nat
  | 0, pos => pos
  | k + 1, pos => if pos < s.size then offB s k (pos + (Utf8.decode s pos).2) else pos
def I64 (m : Int) : Prop := -9223372036854775808 ≤ m ∧ m ≤ 9223372036854775807
theorem precK_neg {m : Int} (h : I64 m) (hn : wrap64 (m - 1) < 0) : precK m = 0 := by
  obtain ⟨h1, h2⟩ := h
  unfold wrap64 at hn
  unfold precK
  split <;> omega
theorem precK_pos {m : Int} (h : I64 m) (hn : 0 ≤ wrap64 (m - 1)) : precK m = precK (wrap64 (m - 1)) + 1 ∧ I64 (wrap64 (m - 1)) := by
  obtain ⟨h1, h2⟩ := h
  unfold I64 precK
  unfold wrap64 at hn ⊢
  refine ⟨?_, by omega⟩
  split <;> split <;> omega
theorem offB_end (s : ByteArray) (k pos : Nat) (h : ¬ pos < s.size) : offB s k pos = pos := by
  cases k with
  | zero => rfl
  | succ k => rw [offB, if_neg h]
theorem offB_succ (s : ByteArray) (k pos : Nat) (h : pos < s.size) : offB s (k + 1) pos = offB s k (pos + (Utf8.decode s pos).2) := by rw [offB, if_pos h]
/-- The first 'prec' runes. -/
def cutB (pp : Bool) (prec : Int) (s : ByteArray) : List UInt8 := if pp then s.data.toList.take (offB s (precK prec) 0) else s.data.toList
theorem extract_list (s : ByteArray) (n : Nat) : (s.extract 0 n).data.toList = s.data.toList.take n := by
  rw [ByteArray.data_extract]
  simp
theorem width_pos (s : ByteArray) (pos : Nat) (h : pos < s.size) : 1 ≤ (Utf8.decode s pos).2 := Lib.decode_width_pos s pos h

/-- What the cut of a string gives. -/
def CutS (pp : Bool) (prec : Int) (s : ByteArray) (w : World) (e : Ending) (w' : World) : Prop := ∃ t : ByteArray, e = .returned (.string t) ∧ t.data.toList = cutB pp prec s ∧ Below w.heap.size w w'
end Go.Fmt
namespace Go.Proofs.YtlekmfkcbgkfgaaDoor.Fm
open Go.ChangeShapes Go.WideShapes Go.ChangeAt Go.RowKit Go.Fmt

theorem iter_below {w : World} {s : ByteArray} {pos : Nat} : Below w.heap.size w (w.iter s pos) := (Below.refl _ _).alloc (Nat.le_refl _) _

set_option maxRecDepth 100000 in
set_option maxHeartbeats 1000000 in
theorem truncS (F : Nat) (a : Addr) (f : Flags) (s : ByteArray) (w : World) (hf : FmtAt w F a f) (hp : I64 f.prec) :
    Calls Tryd.prog 7 #[.pointer (some ⟨F, 0, none⟩), .string s] w (CutS f.precP f.prec s w) := by
  have q1 := hf.precP
  have q2 := hf.prec
  clear hf
  obtain ⟨pp, hpp⟩ : ∃ x, x = f.precP := ⟨_, rfl⟩
  obtain ⟨pr, hpr⟩ : ∃ x, x = f.prec := ⟨_, rfl⟩
  rw [← hpp] at q1 ⊢
  rw [← hpr] at q2 hp ⊢
  clear hpp hpr
  cases pp
  · go_enter Tryd.func7, Tryd.ntmps7
    go_wp2
    go_ret
    exact ⟨s, rfl, rfl, Below.refl _ _⟩
  · have HP := Lib.hid hp
    clear hp
    go_enter Tryd.func7, Tryd.ntmps7
    go_wp2
    go_loopw [5] (fun n w' => ∃ (pos : Nat) (m : Int), w' = w.iter s pos ∧ n = .int .i64 m ∧ Hid (offB s (precK m) pos = offB s (precK pr) 0) ∧ Hid (I64 m)) (fun _ w' => s.size - w'.iterPos w.heap.size)
    case atStart => exact ⟨0, pr, rfl, rfl, Lib.hid rfl, HP⟩
    case round =>
      obtain ⟨pos, m, rfl, rfl, HO, HM⟩ := hrel
      by_cases hlt : pos < s.size
      · have hnx : ∀ ty, (Instr.next (.pointer (some ⟨w.heap.size, 0, none⟩)) true ty).run Tryd.prog (w.iter s pos) = _ := fun ty => run_next_any w s pos ty hlt
        obtain ⟨M, hM⟩ : ∃ M, M = wrap64 (m - 1) := ⟨_, rfl⟩
        have HW := Lib.hid hM
        have hw : wrap64 (m - 1) = M := hM.symm
        clear hM
        by_cases h0 : M < 0
        · have hle : (pos : Int) ≤ (s.size : Int) := by omega
          go_wp2
          go_ret
          refine ⟨s.extract 0 pos, rfl, ?_, iter_below⟩
          rw [extract_list, cutB, if_pos rfl, ← HO.out, precK_neg HM.out (by rw [← HW.out]; exact h0)]
          rfl
        · go_wp2
          have hwd := width_pos s pos hlt
          go_roundw
          case rel =>
            have h1 := precK_pos HM.out (by rw [← HW.out]; omega)
            refine ⟨pos + (Utf8.decode s pos).2, M, rfl, by rw [HW.out], Lib.hid ?_, Lib.hid (by rw [HW.out]; exact h1.2)⟩
            rw [← HO.out, h1.1, offB_succ _ _ _ hlt, HW.out]
          case measure =>
            simp
            omega
      · have hnx : ∀ ty, (Instr.next (.pointer (some ⟨w.heap.size, 0, none⟩)) true ty).run Tryd.prog (w.iter s pos) = _ := fun ty => run_next_end w s pos ty hlt
        go_wp2
        go_ret
        refine ⟨s, rfl, ?_, iter_below⟩
        rw [cutB, if_pos rfl, ← HO.out, offB_end _ _ _ hlt, List.take_of_length_le (by rw [size_list]; omega)]
end Go.Proofs.YtlekmfkcbgkfgaaDoor.Fm
