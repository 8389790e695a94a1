/- The laws' own comparison of a string with a slice. -/
import Derived.Test.YtnjinknpckkioaaObj2
import Derived.LoopTactic
import Derived.Deep.LoopGhost
namespace Go.Proofs.Ytnjinknpckkioaa.Fm
open Go.ChangeShapes Go.WideShapes Go.ChangeAt Go.RowKit Go.Fmt

theorem u8_ne {a b : UInt8} (h : a ≠ b) : (((a.toNat : Int)) != (b.toNat : Int)) = true := by
  simp only [bne_iff_ne]
  intro e
  exact h (UInt8.toNat_inj.1 (by omega))


set_option maxRecDepth 100000 in
set_option maxHeartbeats 1000000 in
theorem sameText (q : Option Addr) (cb : Nat) (xs bs : List UInt8) (w : World) (hb : RowAt w q bs.length bs) (hl : bs.length ≤ 1000000000) : Calls Try.prog 18 #[.string ⟨xs.toArray⟩, .slice q bs.length cb] w fun e w' => e = .returned (.bool (decide (xs = bs))) ∧ Below w.heap.size w w' := by
  obtain ⟨s, hs⟩ : ∃ s : ByteArray, s = ⟨xs.toArray⟩ := ⟨_, rfl⟩
  have hsz : s.size = xs.length := by rw [hs]; simp [ByteArray.size]
  have hget : ∀ k (h : k < xs.length) (h' : k < s.size), s[k]'h' = xs[k] := by subst hs; intro k h h'; rfl
  rw [← hs]
  have HGet := Lib.hid hget
  have HSZ := Lib.hid hsz
  clear hs hget
  by_cases hn : xs.length = bs.length
  · have HN := Lib.hid hn
    have HB := Lib.hid hb
    have hsb : s.size = bs.length := by rw [hsz, hn]
    have hq0 : ((s.size : Int) != (bs.length : Int)) = false := by simp; omega
    clear hn hb hsz hsb
    go_enter Try.func18, Try.ntmps18
    go_wp2
    go_loopw [5] (fun i wr => ∃ k : Nat, k ≤ bs.length ∧ i = .int .i64 k ∧ Hid (xs.take k = bs.take k) ∧ Below w.heap.size w wr) (fun i _ => bs.length - (intOf i).toNat)
    case atStart => exact ⟨0, Nat.zero_le _, rfl, Lib.hid rfl, Below.refl _ _⟩
    case round =>
      obtain ⟨k, hk, rfl, HE, hbel⟩ := hrel
      by_cases hlt : k < bs.length
      · have hlt2 : k < xs.length := by have := HN.out; omega
        have hlt3 : k < s.size := by have := HSZ.out; omega
        have hb := HB.out
        rcases hb with ⟨_, _, rfl⟩ | ⟨y, rfl, _, hy⟩
        · simp at hlt
        have hy0 := hy k hlt
        have hy1 := (hbel.cell (World.block_lt_of_cell? w _ hy0)).trans hy0
        have hi0 : (0 : Int) ≤ (k : Int) := by omega
        have hi1 : (k : Int) < (s.size : Int) := by omega
        have hi2 : (k : Int) < (bs.length : Int) := by omega
        have hg := HGet.out k hlt2 hlt3
        clear hy hy0 HB
        by_cases hne : xs[k] = bs[k]
        · have hq : (((s[k]'hlt3).toNat : Int) != (bs[k].toNat : Int)) = false := by rw [hg, hne]; simp
          clear hg
          go_wp2
          go_quiet (fail)
          go_wp2
          go_roundw
          case rel =>
            refine ⟨k + 1, hlt, by go_num, Lib.hid ?_, ⟨hbel.os, hbel.tape, hbel.output, hbel.size, hbel.block⟩⟩
            rw [List.take_succ_eq_append_getElem hlt, List.take_succ_eq_append_getElem hlt2, HE.out, hne]
          case measure => simp [intOf]; omega
        · have hq : (((s[k]'hlt3).toNat : Int) != (bs[k].toNat : Int)) = true := by rw [hg]; exact u8_ne hne
          have HNe := Lib.hid hne
          clear hne hg
          go_wp2
          go_quiet (fail)
          go_wp2
          go_ret
          refine ⟨ret_bool ?_, ⟨hbel.os, hbel.tape, hbel.output, hbel.size, hbel.block⟩⟩
          rw [decide_eq_false]
          intro e
          exact HNe.out (by subst e; rfl)
      · obtain rfl : k = bs.length := by omega
        go_wp2
        go_ret
        refine ⟨ret_bool ?_, hbel⟩
        rw [decide_eq_true]
        have h1 := HE.out
        rw [List.take_length, ← HN.out, List.take_length] at h1
        exact h1
  · have hd : ((s.size : Int) != (bs.length : Int)) = true := by simp; omega
    clear hb hsz
    go_enter Try.func18, Try.ntmps18
    go_wp2
    go_ret
    refine ⟨ret_bool ?_, Below.refl _ _⟩
    rw [decide_eq_false (fun e => hn (by rw [e]))]
end Go.Proofs.Ytnjinknpckkioaa.Fm
