/- The laws' own copy of a slice: nil stays nil, else the same bytes in a new block. -/
import Derived.Test.YtjnoodilpffbiaaFmtRow
import Derived.Lib.Hide
import Derived.LoopTactic
import Derived.Deep.LoopGhost
import Derived.WalkLawsBesides
import Derived.WalkSpells
import Derived.Deep.DeepCutAuto
namespace Go.Proofs.YtjnoodilpffbiaaFmt.Fm
open Go.ChangeShapes Go.WideShapes Go.ChangeAt Go.RowKit Go.Fmt

/-- What the copy gives. -/
def CopyOf (w : World) (p : Option Addr) (bs : List UInt8) (e : Ending) (w' : World) : Prop :=
  (p = none ∧ bs = [] ∧ e = .returned (.slice none 0 0) ∧ w = w') ∨
  ∃ g, e = .returned (.slice (some ⟨g, 0, none⟩) bs.length bs.length) ∧ w'.ownsRow w.heap.size 5 1 (.slice (some ⟨g, 0, none⟩) bs.length bs.length) bs.length (bcells bs) ∧ Below w.heap.size w w'

set_option maxRecDepth 100000 in
set_option maxHeartbeats 1000000 in
theorem zzClone (p : Option Addr) (len cap : Nat) (bs : List UInt8) (w : World) (h : RowAt w p len bs) (hl : len ≤ 1048576) (hc : p = none → cap = 0) : Calls Tryf.prog 7 #[.slice p len cap] w (CopyOf w p bs) := by
  have he : ∀ p l c w, (binOp .eql 22 (.slice p l c) (.slice none 0 0)).run Tryf.prog w = .ok (.bool p.isNone) w := fun p l c w => by cases p <;> rfl
  have hI := Lib.hid info5
  rcases h with ⟨rfl, rfl, rfl⟩ | ⟨x, rfl, rfl, hx⟩
  · obtain rfl := hc rfl
    have he1 := he none 0 0
    clear he hc
    go_enter Tryf.func7, Tryf.ntmps7
    go_wp2
    go_ret
    exact .inl ⟨rfl, rfl, rfl, rfl⟩
  · have he1 := he (some x) bs.length cap
    have HX := Lib.hid hx
    clear he hc hx
    go_enter Tryf.func7, Tryf.ntmps7
    go_wp2_with ((at_make; refine make_bytes rfl _ 22 rfl w.heap.size 5 Tryf.underlying22 hI.out _ bs.length rfl rfl (by omega) (Nat.le_refl _) ?_; intro w1 hown1 hb1 hsz1 hsame1))
    have hown0 := own_take hown1 (Nat.zero_le _)
    clear hsame1
    go_loopw [4] (fun i wr => ∃ k : Nat, k ≤ bs.length ∧ i = .int .i64 k ∧ wr.ownsRow w.heap.size 5 1 (.slice (some ⟨w.heap.size, 0, none⟩) k bs.length) k (bcells (bs.take k)) ∧ Below w.heap.size w wr) (fun i _ => bs.length - (intOf i).toNat)
    case atStart => exact ⟨0, Nat.zero_le _, rfl, by simpa [bcells] using hown0, hb1⟩
    case round =>
      obtain ⟨k, hk, rfl, hown, hb⟩ := hrel
      have hbs := hb.size
      by_cases hlt : k < bs.length
      · have hc0 := HX.out k hlt
        have hcx := (hb.cell (World.block_lt_of_cell? w _ hc0)).trans hc0
        obtain ⟨⟨v, hcv⟩, hfv⟩ := own_cell hown (j := k) hlt
        clear hc0
        go_wp2
        go_roundw
        case rel =>
          refine ⟨k + 1, hlt, by go_num, ?_, hb.setCell (Nat.le_refl _) _⟩
          have h8 := own_set (.int .u8 (bs[k].toNat : Int)) hown hlt
          have e1 : bcells (bs.take (k + 1)) = bcells (bs.take k) ++ [.int .u8 (bs[k].toNat : Int)] := by
            rw [List.take_succ_eq_append_getElem hlt, bcells_append]; rfl
          rw [e1]
          exact h8
        case measure => simp [intOf]; omega
      · obtain rfl : k = bs.length := by omega
        go_wp2
        go_ret
        exact .inr ⟨w.heap.size, rfl, by simpa using hown, hb⟩
end Go.Proofs.YtjnoodilpffbiaaFmt.Fm
