/- The laws' own comparison of two slices: true exactly where they hold the same bytes. -/
import Derived.Test.YtiohjlnebeifaaaFmtRow
import Derived.Lib.Hide
import Derived.LoopTactic
import Derived.Deep.LoopGhost
import Derived.WalkLawsBesides
import Derived.WalkSpells
import Derived.Deep.QuietTactic
import Derived.BigQuiet
namespace Go.Proofs.YtiohjlnebeifaaaFmt.Fm
open Go.ChangeShapes Go.WideShapes Go.ChangeAt Go.RowKit Go.Fmt

theorem ret_bool {a b : Bool} (h : a = b) : Ending.returned (.bool a) = .returned (.bool b) := by rw [h]
theorem u8_ne {a b : UInt8} (h : a ≠ b) : (((a.toNat : Int)) != (b.toNat : Int)) = true := by
  simp only [bne_iff_ne]
  intro e
  exact h (UInt8.toNat_inj.1 (by omega))

set_option maxRecDepth 100000 in
set_option maxHeartbeats 1000000 in
theorem zzEqual (p q : Option Addr) (la ca lb cb : Nat) (xs bs : List UInt8) (w : World) (ha : RowAt w p la xs) (hb : RowAt w q lb bs) (hl : la ≤ 1000000000) : Calls Tryf.prog 21 #[.slice p la ca, .slice q lb cb] w fun e w' => e = .returned (.bool (decide (xs = bs))) ∧ Below w.heap.size w w' := by
  obtain rfl := ha.len
  obtain rfl := hb.len
  by_cases hn : xs.length = bs.length
  · have HN := Lib.hid hn
    have HA := Lib.hid ha
    have HB := Lib.hid hb
    rw [← hn]
    clear hn ha hb
    go_enter Tryf.func21, Tryf.ntmps21
    go_wp2
    go_loopw [5] (fun i wr => ∃ k : Nat, k ≤ xs.length ∧ i = .int .i64 k ∧ Hid (xs.take k = bs.take k) ∧ Below w.heap.size w wr) (fun i _ => xs.length - (intOf i).toNat)
    case atStart => exact ⟨0, Nat.zero_le _, rfl, Lib.hid rfl, Below.refl _ _⟩
    case round =>
      obtain ⟨k, hk, rfl, HE, hbel⟩ := hrel
      by_cases hlt : k < xs.length
      · have hlt2 : k < bs.length := by have := HN.out; omega
        have ha := HA.out
        have hb := HB.out
        rcases ha with ⟨_, _, rfl⟩ | ⟨x, rfl, _, hx⟩
        · simp at hlt
        rcases hb with ⟨_, _, rfl⟩ | ⟨y, rfl, _, hy⟩
        · simp at hlt2
        have hx0 := hx k hlt
        have hy0 := hy k hlt2
        have hx1 := (hbel.cell (World.block_lt_of_cell? w _ hx0)).trans hx0
        have hy1 := (hbel.cell (World.block_lt_of_cell? w _ hy0)).trans hy0
        have hi0 : (0 : Int) ≤ (k : Int) := by omega
        have hi1 : (k : Int) < (xs.length : Int) := by omega
        clear hx hy hx0 hy0 HA HB
        by_cases hne : xs[k] = bs[k]
        · have hq : ((xs[k].toNat : Int) != (bs[k].toNat : Int)) = false := by rw [hne]; simp
          go_wp2
          go_quiet (fail)
          go_wp2
          go_roundw
          case rel =>
            refine ⟨k + 1, hlt, by go_num, Lib.hid ?_, ⟨hbel.os, hbel.tape, hbel.output, hbel.size, hbel.block⟩⟩
            rw [List.take_succ_eq_append_getElem hlt, List.take_succ_eq_append_getElem hlt2, HE.out, hne]
          case measure => simp [intOf]; omega
        · have hq := u8_ne hne
          have HNe := Lib.hid hne
          clear hne
          go_wp2
          go_quiet (fail)
          go_wp2
          go_ret
          refine ⟨ret_bool ?_, ⟨hbel.os, hbel.tape, hbel.output, hbel.size, hbel.block⟩⟩
          rw [decide_eq_false]
          intro e
          exact HNe.out (by subst e; rfl)
      · obtain rfl : k = xs.length := by omega
        go_wp2
        go_ret
        refine ⟨ret_bool ?_, hbel⟩
        rw [decide_eq_true]
        have h1 := HE.out
        rw [List.take_length, HN.out, List.take_length] at h1
        exact h1
  · have hd : ((xs.length : Int) != (bs.length : Int)) = true := by simp; omega
    clear ha hb
    go_enter Tryf.func21, Tryf.ntmps21
    go_wp2
    go_ret
    refine ⟨ret_bool ?_, Below.refl _ _⟩
    rw [decide_eq_false (fun e => hn (by rw [e]))]
end Go.Proofs.YtiohjlnebeifaaaFmt.Fm
