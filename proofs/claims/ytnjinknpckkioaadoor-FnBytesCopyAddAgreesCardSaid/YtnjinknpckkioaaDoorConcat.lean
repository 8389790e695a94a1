/- The laws' own test: is a string the bytes of one slice followed by those of another? True where it is. -/
import Derived.Test.YtnjinknpckkioaaDoorObj
import Derived.Lib.Hide
import Derived.LoopTactic
import Derived.Deep.LoopGhost
import Derived.WalkLawsBesides
import Derived.WalkSpells
import Derived.Deep.QuietTactic
import Derived.BigQuiet
import Derived.IntWalk
namespace Go.Proofs.YtnjinknpckkioaaDoor.Fm
open Go.ChangeShapes Go.WideShapes Go.ChangeAt Go.RowKit Go.Fmt

set_option maxRecDepth 100000 in
set_option maxHeartbeats 2000000 in
theorem isConcat (p q : Option Addr) (ca cb : Nat) (xs ys : List UInt8) (w : World) (ha : RowAt w p xs.length xs) (hb : RowAt w q ys.length ys) (hl : xs.length + ys.length ≤ 1000000000) :
    Calls Tryd.prog 11 #[.string ⟨(xs ++ ys).toArray⟩, .slice p xs.length ca, .slice q ys.length cb] w fun e w' => e = .returned (.bool true) ∧ Below w.heap.size w w' := by
  obtain ⟨s, hs⟩ : ∃ s : ByteArray, s = ⟨(xs ++ ys).toArray⟩ := ⟨_, rfl⟩
  have hsz : s.size = xs.length + ys.length := by rw [hs]; simp [ByteArray.size]
  have hget1 : ∀ k (h : k < xs.length) (h' : k < s.size), s[k]'h' = xs[k] := by subst hs; intro k h h'; show (xs ++ ys).toArray[k]'_ = _; simp [List.getElem_append_left h]
  have hget2 : ∀ k (h : k < ys.length) (h' : xs.length + k < s.size), s[xs.length + k]'h' = ys[k] := by subst hs; intro k h h'; show (xs ++ ys).toArray[xs.length + k]'_ = _; simp [List.getElem_append_right]
  rw [← hs]
  have HG1 := Lib.hid hget1
  have HG2 := Lib.hid hget2
  have HSZ := Lib.hid hsz
  have HA := Lib.hid ha
  have HB := Lib.hid hb
  have hsl : s.size ≤ 1000000000 := by omega
  have hq0 : ((s.size : Int) != (xs.length : Int) + (ys.length : Int)) = false := by simp; omega
  clear hs hget1 hget2 ha hb hsz
  go_enter Tryd.func11, Tryd.ntmps11
  go_wp2
  go_loopw [7] (fun i wr => ∃ k : Nat, k ≤ xs.length ∧ i = .int .i64 k ∧ Below w.heap.size w wr) (fun i _ => xs.length - (intOf i).toNat)
  case atStart => exact ⟨0, Nat.zero_le _, rfl, Below.refl _ _⟩
  case round =>
    obtain ⟨k, hk, rfl, hbel⟩ := hrel
    by_cases hlt : k < xs.length
    · have hlt3 : k < s.size := by have := HSZ.out; omega
      have ha := HA.out
      rcases ha with ⟨_, _, rfl⟩ | ⟨x, rfl, _, hx⟩
      · simp at hlt
      have hx0 := hx k hlt
      have hx1 := (hbel.cell (World.block_lt_of_cell? w _ hx0)).trans hx0
      have hi0 : (0 : Int) ≤ (k : Int) := by omega
      have hi1 : (k : Int) < (s.size : Int) := by omega
      have hi2 : (k : Int) < (xs.length : Int) := by omega
      have hg := HG1.out k hlt hlt3
      have hq : (((s[k]'hlt3).toNat : Int) != (xs[k].toNat : Int)) = false := by rw [hg]; simp
      clear hx hx0 HA HB hg hq0
      go_wp2
      go_quiet (fail)
      go_wp2
      go_roundw
      case rel => exact ⟨k + 1, hlt, by go_num, ⟨hbel.os, hbel.tape, hbel.output, hbel.size, hbel.block⟩⟩
      case measure => simp [intOf]; omega
    · obtain rfl : k = xs.length := by omega
      clear hq0
      go_wp2
      rename World => wm
      go_loopw [8] (fun i wr => ∃ k : Nat, k ≤ ys.length ∧ i = .int .i64 k ∧ Below w.heap.size w wr) (fun i _ => ys.length - (intOf i).toNat)
      case atStart => exact ⟨0, Nat.zero_le _, rfl, hbel⟩
      case round =>
        obtain ⟨j, hj, rfl, hbel2⟩ := hrel
        by_cases hltj : j < ys.length
        · have hlt3 : xs.length + j < s.size := by have := HSZ.out; omega
          have hb := HB.out
          rcases hb with ⟨_, _, rfl⟩ | ⟨y, rfl, _, hy⟩
          · simp at hltj
          have hy0 := hy j hltj
          have hy1 := (hbel2.cell (World.block_lt_of_cell? w _ hy0)).trans hy0
          have hi0 : (0 : Int) ≤ (j : Int) := by omega
          have hi1 : (xs.length : Int) + (j : Int) < (s.size : Int) := by omega
          have hi2 : (j : Int) < (ys.length : Int) := by omega
          have hg := HG2.out j hltj hlt3
          have hq : (((s[xs.length + j]'hlt3).toNat : Int) != (ys[j].toNat : Int)) = false := by rw [hg]; simp
          have hi3 : (0 : Int) ≤ (xs.length : Int) + (j : Int) := by omega
          have hi4 : ((xs.length : Int) + (j : Int)).toNat = xs.length + j := by omega
          have hi5 : IntKind.i64.wrap ((xs.length : Int) + (j : Int)) = (xs.length : Int) + (j : Int) := IntWalk.i64_in _ (by omega)
          clear hy hy0 HA HB hg
          go_wp2
          go_quiet (fail)
          go_wp2
          clear hi4 hi5
          go_roundw
          case rel => exact ⟨j + 1, hltj, by go_num, ⟨hbel2.os, hbel2.tape, hbel2.output, hbel2.size, hbel2.block⟩⟩
          case measure => simp [intOf]; omega
        · obtain rfl : j = ys.length := by omega
          go_wp2
          go_ret
          exact ⟨rfl, hbel2⟩
end Go.Proofs.YtnjinknpckkioaaDoor.Fm
