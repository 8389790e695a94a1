/- The formatter's writePadding: where it fits into MaxStringLen it adds n pad bytes behind what the buffer holds. -/
import Derived.Test.YtlekmfkcbgkfgaaDoorBase
import Derived.WalkKit
import Derived.ProofKit
import Derived.OwnWalk
import Derived.Lib.Hide
import Derived.LoopTactic
import Derived.Deep.LoopGhost
import Derived.WalkLawsBesides
import Derived.WalkSpells
import Derived.Deep.QuietTactic
import Derived.BigQuiet
import Derived.StillTailTactics
import Derived.Deep.DeepCutAuto
namespace Go.Proofs.YtlekmfkcbgkfgaaDoor.Fm
open Go.ChangeShapes Go.WideShapes Go.ChangeAt Go.RowKit Go.Fmt

theorem writePadding0 (F : Addr) (n : Int) (w : World) (hn : n ≤ 0) :
    Calls Tryd.prog 16 #[.pointer (some F), .int .i64 n] w fun e w' => e = .returned (.tuple #[]) ∧ w = w' := by
  go_enter Tryd.func16, Tryd.ntmps16
  go_wp2
  try simp only [Exit.inBlock, Exit.then]
  refine bodyPost_ret (results_none rfl _ _ _) rfl ?_
  exact ⟨rfl, rfl⟩

set_option maxRecDepth 100000 in
set_option maxHeartbeats 1000000 in
theorem writePaddingPos (F base : Nat) (a : Addr) (z : Bool) (n : Nat) (bs : List UInt8) (w : World) (hb : Buf 5 w base a bs) (hg1 : w.cell? ⟨0, 0, none⟩ = some (.int .i64 2147483647))
    (hp : w.cell? ⟨F, 0, none⟩ = some (.pointer (some a))) (hz : w.cell? ⟨F, 7, none⟩ = some (.bool z)) (hF : F < base) (hn : 0 < n) (hlen : bs.length + n ≤ 2147483647) :
    Calls Tryd.prog 16 #[.pointer (some ⟨F, 0, none⟩), .int .i64 n] w fun e w' => e = .returned (.tuple #[]) ∧ Buf 5 w' base a (bs ++ List.replicate n (padByte z)) ∧ Kept base a w w' := by
  have hB := hb
  obtain ⟨p, cap, h1, h2, h3, h4, h5, h6, h7⟩ := hb
  have hI := Lib.hid info5
  have hS := Lib.hid size5
  have hd0 : decide ((n : Int) ≤ 0) = false := by simp; omega
  have hd0' : decide (n = 0) = false := by simp; omega
  have hd1 : decide (2147483647 < (bs.length : Int) + n) = false := by simp; omega
  go_enter Tryd.func16, Tryd.ntmps16
  go_upto_if 30 with (fail)
  go_cut [4] (fun s4 wx => ∃ g m cap2, s4 = .slice (some ⟨g, 0, none⟩) m cap2 ∧ bs.length + n ≤ cap2 ∧ cap2 ≤ maxLen ∧ base ≤ g ∧ wx.ownsRow base 5 1 (.slice (some ⟨g, 0, none⟩) bs.length cap2) bs.length (bcells bs) ∧ Below base w wx)
  case first =>
    by_cases hroom : bs.length + n ≤ cap
    · obtain ⟨g, rfl, hg2, hg3⟩ := own_some h3 (by omega)
      go_wp2
      go_meet
      exact ⟨g, _, cap, rfl, hroom, h5, hg2, h3, Below.refl _ _⟩
    · have HL := Lib.hid (show (cap : Int) * 2 + n = ((cap * 2 + n : Nat) : Int) by omega)
      go_wp2_with (first
        | (at_make; refine make_bytes rfl _ 25 rfl base 5 Tryd.underlying25 hI.out _ (cap * 2 + n) rfl HL.out (by omega) h7 ?_; intro w1 hown1 hb1 hsz1 hsame1; have hp1 := (hb1.cell (p := ⟨F, 0, none⟩) hF).trans hp; have h11 := (hb1.cell h6).trans h1; have h31 := ownsRow_below h3 (fun k hk => hsame1 k (h3.lt k hk).2); clear hsame1)
        | (refine copy_into (o := ⟨some 44, _, _, _, _, _⟩) rfl (.tmp 37) (.tmp 43) 25 25 rfl 5 Tryd.underlying25 hS.out base w.heap.size (cap * 2 + n) (cap * 2 + n) cap p bs _ rfl rfl hown1 h31 (by omega) ?_; intro w2 hown2 hbel2))
      go_meet
      exact ⟨w.heap.size, _, cap * 2 + n, rfl, by omega, by unfold maxLen; omega, h7, hown2, hb1.trans hbel2⟩
  case rest =>
    obtain ⟨g, m, cap2, rfl, hc1, hc2, hg2, hown, hbel⟩ := hcut
    have hp2 := (hbel.cell (p := ⟨F, 0, none⟩) hF).trans hp
    have hz2 := (hbel.cell (p := ⟨F, 7, none⟩) hF).trans hz
    clear hp hz hd0 hd0' hd1
    have hwz := hbel.size
    have hsz : g < wc.heap.size := (hown.lt g rfl).2
    go_upto_if 49 with (fail)
    go_cut [7] (fun s7 wx => s7 = .int .u8 (padByte z).toNat ∧ wc = wx)
    case first =>
      cases z
      all_goals
        go_wp2
        go_meet
        exact ⟨rfl, rfl⟩
    case rest =>
      obtain ⟨rfl, rfl⟩ := hcut
      generalize hpb : padByte z = pb
      have HP := Lib.hid hpb
      clear hpb
      clear hz2
      go_wp2
      go_loopw [9, 56] (fun i9 i wr => ∃ k : Nat, k ≤ n ∧ i = .int .i64 k ∧ wr.ownsRow base 5 1 (.slice (some ⟨g, 0, none⟩) (bs.length + k) cap2) (bs.length + k) (bcells (bs ++ List.replicate k pb)) ∧ Below base w wr) (fun _ i _ => n - (intOf i).toNat)
      case atStart => exact ⟨0, Nat.zero_le _, rfl, by simpa using hown, hbel⟩
      case round =>
        obtain ⟨k, hk, rfl, hownk, hbelk⟩ := hrel
        have hbs := hbelk.size
        by_cases hlt : k < n
        · obtain ⟨⟨v, hcv⟩, hfv⟩ := own_cell hownk (j := bs.length + k) (by omega)
          go_wp2
          go_roundw
          case rel =>
            refine ⟨k + 1, hlt, by go_num, ?_, hbelk.setCell hg2 _⟩
            have h8 := own_set (.int .u8 pb.toNat) hownk (by omega)
            have e1 : bcells (bs ++ List.replicate (k + 1) pb) = bcells (bs ++ List.replicate k pb) ++ [.int .u8 pb.toNat] := by
              rw [List.replicate_succ', ← List.append_assoc, bcells_append]; rfl
            rw [e1]
            exact h8
          case measure => simp [intOf]; omega
        · obtain rfl : k = n := by omega
          have hp3 := (hbelk.cell (p := ⟨F, 0, none⟩) hF).trans ((hbel.cell (p := ⟨F, 0, none⟩) hF).symm.trans hp2)
          have hca := (hbelk.cell h6).trans h1
          have hfa := (hbelk.frozen h6).trans h2
          clear h1 h2 hp2
          go_wp2
          have q2 : (0 : Int) ≤ (bs.length : Int) + (k : Int) := by omega
          have q3 : (bs.length : Int) + (k : Int) ≤ (cap2 : Int) := by omega
          have q4 : ¬ ((bs.length : Int) + (k : Int) < 0) := by omega
          have q5 : ¬ ((cap2 : Int) < (bs.length : Int) + (k : Int)) := by omega
          have q1 : ((bs.length : Int) + (k : Int)).toNat = bs.length + k := by omega
          go_still_tail 8, (by kernel_rfl)
          clear q1
          change wpList _ _ _ _ _ wr.drew
          go_wp2
          go_end0
          rw [HP.out]
          have hk' : wr.ownsRow base 5 1 (.slice (some ⟨g, 0, none⟩) (bs.length + k) cap2) (bs ++ List.replicate k pb).length (bcells (bs ++ List.replicate k pb)) := by simpa using hownk
          exact ⟨rfl, buf_set hB hbelk.drew hk'⟩

theorem writePadding (F base : Nat) (a : Addr) (z : Bool) (n : Int) (bs : List UInt8) (w : World) (hb : Buf 5 w base a bs) (hg1 : w.cell? ⟨0, 0, none⟩ = some (.int .i64 2147483647))
    (hp : w.cell? ⟨F, 0, none⟩ = some (.pointer (some a))) (hz : w.cell? ⟨F, 7, none⟩ = some (.bool z)) (hF : F < base) (hlen : (bs.length : Int) + n ≤ 2147483647) :
    Calls Tryd.prog 16 #[.pointer (some ⟨F, 0, none⟩), .int .i64 n] w fun e w' => e = .returned (.tuple #[]) ∧ Buf 5 w' base a (bs ++ List.replicate n.toNat (padByte z)) ∧ Kept base a w w' := by
  by_cases hn : n ≤ 0
  · refine (writePadding0 ⟨F, 0, none⟩ n w hn).mono ?_
    rintro e w' ⟨rfl, rfl⟩
    rw [show n.toNat = 0 by omega]
    exact ⟨rfl, by simpa using hb, Kept.refl _ _ _⟩
  · obtain ⟨m, rfl⟩ := Int.eq_ofNat_of_zero_le (show 0 ≤ n by omega)
    exact writePaddingPos F base a z m bs w hb hg1 hp hz hF (by omega) (by omega)
end Go.Proofs.YtlekmfkcbgkfgaaDoor.Fm
