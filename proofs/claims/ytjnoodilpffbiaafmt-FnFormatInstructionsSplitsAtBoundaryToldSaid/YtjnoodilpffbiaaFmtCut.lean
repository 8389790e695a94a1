/- A cut in a walk whose frame keeps only the named slots: every other slot is 'g i' for one function g. Plain; no program. -/
import Derived.WalkKit
import Derived.Deep.DeepCutAuto
namespace Go.Fmt

/-- The value at place i of a frame. -/
def nth : List Value → Nat → Value
  | [], _ => undef
  | v :: _, 0 => v
  | _ :: l, n + 1 => nth l n

theorem meetG {f : (Nat → Value) → Act} {R : (Nat → Value) → Prop} {a : Act} (h : a = f (nth a.tmps.toList)) (hR : R (nth a.tmps.toList)) : ∃ g, R g ∧ a = f g := ⟨_, hR, h⟩
end Go.Fmt
