/- A slice of bytes that came in, read as bytes; a slice of the call's own. -/
import Derived.Test.YtjnoodilpffbiaaFmtBase
import Derived.Test.YtjnoodilpffbiaaFmtBuf
import Derived.Test.YtjnoodilpffbiaaFmtFrame
import Derived.WalkKit
import Derived.ProofKit
namespace Go.Fmt
open Go.RowKit

/-- The bytes of a slice, wherever it lies. -/
def RowAt (w : World) (p : Option Addr) (len : Nat) (bs : List UInt8) : Prop :=
  (p = none ∧ len = 0 ∧ bs = []) ∨ ∃ x, p = some x ∧ len = bs.length ∧ ∀ j (hj : j < bs.length), w.cell? (x.add j) = some (.int .u8 (bs[j].toNat : Int))

theorem RowAt.len {w : World} {p : Option Addr} {len : Nat} {bs : List UInt8} (h : RowAt w p len bs) : len = bs.length := by
  rcases h with ⟨_, h1, h2⟩ | ⟨_, _, h, _⟩
  · rw [h1, h2]; rfl
  · exact h
theorem rowAt_of {w : World} {p : Option Addr} {len cap : Nat} {zs : List Int} (h : LawFrame.IsRow .u8 1 w p len cap zs) : ∃ bs, RowAt w p len bs ∧ (p = none → cap = 0) ∧ len ≤ cap ∧ len ≤ 140737488351232 := by
  rcases h with ⟨h1, h2, h3, h4⟩ | ⟨x, h1, h2, h3, h4, h5, h6⟩
  · exact ⟨[], .inl ⟨h1, h2, rfl⟩, fun _ => h3, by omega, by omega⟩
  · refine ⟨(zs.take len).map fun z => UInt8.ofNat z.toNat, .inr ⟨x, h1, by simp; omega, fun j hj => ?_⟩, (fun e => by rw [h1] at e; cases e), h2, by omega⟩
    have hj' : j < len ∧ j < zs.length := by simp at hj; omega
    have hc := h5 j hj'.2
    have hz : zs.getD j 0 = zs[j] := by rw [List.getD_eq_getElem?_getD, List.getElem?_eq_getElem hj'.2]; rfl
    have hw := h6 zs[j] (List.getElem_mem _)
    simp [Lit.wf, IntKind.min, IntKind.max, IntKind.signed, IntKind.bits] at hw
    rw [hc, hz]
    simp only [List.getElem_map, List.getElem_take]
    rw [UInt8.toNat_ofNat']
    congr 2
    omega
end Go.Fmt
