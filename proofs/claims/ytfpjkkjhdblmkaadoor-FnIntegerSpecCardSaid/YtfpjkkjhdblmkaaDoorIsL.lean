/- The text of a number is ASCII; its length. Plain. -/
import Derived.Test.YtfpjkkjhdblmkaaDoorIntZ
import Derived.Test.YtfpjkkjhdblmkaaDoorUsL
namespace Go.Proofs.YtfpjkkjhdblmkaaDoor.Fm
open Go.ChangeShapes Go.WideShapes Go.ChangeAt Go.RowKit Go.Fmt Go.Num

def Ascii (l : List UInt8) : Prop := ∀ c ∈ l, c.toNat < 128
theorem preB_ascii (sh : Bool) (b : Nat) (up : Bool) (r : List UInt8) (h : Ascii r) : Ascii (preB sh b (digs up) r) := by
  unfold preB sharpB
  repeat' split
  all_goals first
    | exact h
    | exact ascii_mem (ascii_mem h (by decide)) (by decide)
    | exact ascii_mem h (by decide)
    | exact ascii_mem (ascii_mem h (digs_ascii up 16)) (by decide)
theorem verbB_ascii (o : Bool) (r : List UInt8) (h : Ascii r) : Ascii (verbB o r) := by
  unfold verbB
  split
  · exact ascii_mem (ascii_mem h (by decide)) (by decide)
  · exact h
theorem signB_ascii (a b c : Bool) (r : List UInt8) (h : Ascii r) : Ascii (signB a b c r) := by
  unfold signB
  repeat' split
  all_goals first
    | exact h
    | exact ascii_mem h (by decide)
theorem numB_ascii (neg pl sp sh o : Bool) (b : Nat) (up : Bool) (p m : Nat) : Ascii (numB neg pl sp sh o b (digs up) p m) :=
  signB_ascii _ _ _ _ (verbB_ascii _ _ (preB_ascii _ _ _ _ (fillB_ascii p _ (repr_ascii b up m))))
theorem verbB_length (o : Bool) (r : List UInt8) : (verbB o r).length ≤ r.length + 2 := by
  unfold verbB; split <;> simp
theorem signB_length (a b c : Bool) (r : List UInt8) : (signB a b c r).length ≤ r.length + 1 := by
  unfold signB
  repeat' split
  all_goals simp
theorem out_zp (f : Flags) (neg : Bool) (vb : Int) (b : Nat) (up : Bool) (m : Nat) (T : List UInt8) (h : T = numB neg f.plus f.space f.sharp (decide (vb = 79)) b (digs up) (prec0 f neg).toNat m) :
    outB f neg vb b up m = zp T (T.length : Int) f.widP f.wid f.minus 32 := by
  unfold outB
  rw [← h]
  refine padded_zp f T _ ?_
  rw [rcount_ascii T (by rw [h]; exact numB_ascii _ _ _ _ _ _ _ _ _)]
end Go.Proofs.YtfpjkkjhdblmkaaDoor.Fm
