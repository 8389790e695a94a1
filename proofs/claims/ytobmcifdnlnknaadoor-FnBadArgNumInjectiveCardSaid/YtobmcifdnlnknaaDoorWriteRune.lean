/- The buffer's method WriteRune: where four bytes still fit into MaxStringLen the rune's bytes are added behind what the buffer holds. -/
import Derived.Test.YtobmcifdnlnknaaDoorWrite
import Derived.Test.YtobmcifdnlnknaaDoorRune
import Derived.LoopTactic
import Derived.Deep.LoopGhost
namespace Go.Proofs.YtobmcifdnlnknaaDoor.Fm
open Go.ChangeShapes Go.WideShapes Go.ChangeAt Go.RowKit Go.Lib Go.Fmt

set_option maxHeartbeats 1000000 in
theorem writeRuneLow (a : Addr) (base : Nat) (bs : List UInt8) (r : Int) (w : World) (hb : Buf 5 w base a bs) (hg1 : w.cell? ⟨1, 0, none⟩ = some (.int .i64 2147483647)) (hlen : bs.length + 4 ≤ 2147483647)
    (_hr : -2147483648 ≤ r) (hr2 : r < 128) :
    Calls Tryd.prog 19 #[.pointer (some a), .int .i32 r] w fun e w' => e = .returned (.tuple #[]) ∧ Buf 5 w' base a (bs ++ [UInt8.ofNat (r % 256).toNat]) ∧ Kept base a w w' := by
  have hB := hb
  obtain ⟨p, cap, h1, h2, h3, h4, h5, h6, h7⟩ := hb
  have hI := Lib.hid info5
  have hc2 : bs.length + [UInt8.ofNat (r % 256).toNat].length ≤ 140737488355328 := by simp; omega
  obtain ⟨hl1, hl2⟩ := runeLenI_bounds r
  go_enter Tryd.func19, Tryd.ntmps19
  go_wp2
  go_quiet ((go_at_call 20; exact Calls.quiet_of_same (runeLen _ _)))
  go_wp2_with ((at_builtin; refine append_new (w0 := World.drewN w _) rfl _ _ 56 rfl base 5 Tryd.underlying56 hI.out p bs cap rfl h3 _ [UInt8.ofNat (r % 256).toNat] (cells_one (by omega) (by omega)) _ rfl hc2 h7 ?_; intro p' cap' w' hown' hcap1 hcap2 hgrow; replace hgrow := grown_drewN hgrow; obtain ⟨hca, hfa⟩ := grown_cell h3 hgrow h6 h7 h1 h2))
  try simp only [Exit.inBlock, Exit.then]
  refine bodyPost_ret (results_none rfl _ _ _) rfl ?_
  exact ⟨rfl, buf_store hB (Kept.refl _ _ _) h7 rfl hown' hgrow (fun k hk => (h3.lt k hk).1)⟩

theorem cells_zero : (#[Value.int .u8 0] : Array Value).toList = bcells [0] := rfl

set_option maxHeartbeats 1000000 in
theorem writeRuneHigh (a : Addr) (base : Nat) (bs : List UInt8) (r : Int) (w : World) (hb : Buf 5 w base a bs) (hg1 : w.cell? ⟨1, 0, none⟩ = some (.int .i64 2147483647)) (hlen : bs.length + 4 ≤ 2147483647)
    (hr : 128 ≤ r) (hr2 : r ≤ 2147483647) :
    Calls Tryd.prog 19 #[.pointer (some a), .int .i32 r] w fun e w' => e = .returned (.tuple #[]) ∧ Buf 5 w' base a (bs ++ encB r) ∧ Kept base a w w' := by
  have hB := hb
  obtain ⟨p, cap, h1, h2, h3, h4, h5, h6, h7⟩ := hb
  have hI := Lib.hid info5
  obtain ⟨hl1, hl2⟩ := runeLenI_bounds r
  obtain ⟨he1, he2⟩ := encI_length r
  have hd1 : decide (2147483647 < (bs.length : Int) + runeLenI r) = false := by simp; omega
  have hd2 : decide (r < 128) = false := by simp; omega
  go_enter Tryd.func19, Tryd.ntmps19
  go_wp2
  go_quiet ((go_at_call 20; exact Calls.quiet_of_same (runeLen _ _)))
  go_wp2
  go_loopw [4] (fun v wr => ∃ p' zs cap', v = .slice p' zs.length cap' ∧ bs.length ≤ zs.length ∧ zs.length ≤ bs.length + 4 ∧ zs.length ≤ cap' ∧ cap' ≤ maxLen ∧ Hid (zs.take bs.length = bs) ∧ wr.ownsRow base 5 1 (.slice p' zs.length cap') zs.length (bcells zs) ∧ Below base w wr)
    (fun v _ => match v with | .slice _ m _ => bs.length + 4 - m | _ => 0)
  case atStart => exact ⟨p, bs, cap, rfl, Nat.le_refl _, by omega, h4, h5, Lib.hid List.take_length, h3, below_drewN (Below.refl _ _) _⟩
  case round =>
    obtain ⟨p', zs, cap', rfl, hk, hk2, hm, hc, htake, hown, hbel⟩ := hrel
    have hbz := hbel.size
    have hbw : base ≤ wr.heap.size := by omega
    by_cases hlt : cap' < bs.length + 4
    · clear hB hg1 h1 h2 h3 h4 h5 hbz
      have hc2 : zs.length + [(0 : UInt8)].length ≤ 140737488355328 := by simp; omega
      go_wp2_with ((at_builtin; refine append_new (w0 := wr) rfl _ _ 56 rfl base 5 Tryd.underlying56 hI.out p' zs cap' rfl hown _ [0] cells_zero _ rfl hc2 hbw ?_; intro p2 cap2 w2 hown2 hcap1 hcap2 hgrow))
      have e1 : (zs ++ [(0 : UInt8)]).length = zs.length + 1 := by simp
      refine ⟨⟨p2, zs ++ [0], cap2, by rw [e1], by omega, by omega, by rw [e1]; exact hcap1, hcap2, Lib.hid ?_, by rw [e1] at hown2 ⊢; exact hown2, hbel.grown hgrow hbw (fun k hk => (hown.lt k hk).1)⟩, ?_⟩
      · rw [List.take_append_of_le_length hk]; exact htake.out
      · simp only; omega
    · obtain ⟨g, rfl, hg1, hg2⟩ := own_some hown (by omega)
      have hcells : ∀ j, j < (encI r).length → (∃ v, wr.cell? ⟨g, bs.length + j, none⟩ = some v) ∧ wr.frozen? ⟨g, bs.length + j, none⟩ = false := fun j hj => own_cell hown (by omega)
      have hown3 : (wr.setCells g bs.length ((encI r).map (.int .u8))).ownsRow base 5 1 (.slice (some ⟨g, 0, none⟩) (bs.length + (encI r).length) cap') (bs ++ encB r).length (bcells (bs ++ encB r)) := by
        have h8 := own_take hown hk
        have e1 : (bcells zs).take bs.length = bcells bs := by
          have := congrArg bcells htake.out
          rw [← this]; simp [bcells]
        rw [e1] at h8
        have h9 := own_sets ((encI r).map (.int .u8)) h8 (by simp; omega)
        have e2 : (bs ++ encB r).length = bs.length + (encI r).length := by simp [encB]
        rw [e2, bcells_append, bcells_encB]
        simpa using h9
      have hbel3 : Below base w (wr.setCells g bs.length ((encI r).map (.int .u8))) := hbel.grown (row := some g) (grown_setCells _ ⟨rfl, rfl, rfl, Nat.le_refl _, fun _ _ _ => rfl⟩) hbw (fun k hk => by cases hk; exact hg1)
      have hca : (wr.setCells g bs.length ((encI r).map (.int .u8))).cell? a = some (.slice p bs.length cap) := (hbel3.cell h6).trans h1
      have hfa : (wr.setCells g bs.length ((encI r).map (.int .u8))).frozen? a = false := (hbel3.frozen h6).trans h2
      have hE := Lib.hid (encodeRune g bs.length 4 (cap' - bs.length) r wr (by omega) hr2 (by omega) hcells)
      clear hcells hg1
      go_wp2_with (fail)
      refine hE.out.mono ?_
      rintro e w3 ⟨rfl, hw3⟩
      rw [hw3] at hown3 hbel3 hca hfa
      clear hE hw3 h1 h2 h3 h4 h5
      generalize (encI r).length = m at *
      go_wp2
      go_end0
      exact ⟨rfl, buf_set hB hbel3 hown3⟩

theorem writeRune (a : Addr) (base : Nat) (bs : List UInt8) (r : Int) (w : World) (hb : Buf 5 w base a bs) (hg1 : w.cell? ⟨1, 0, none⟩ = some (.int .i64 2147483647)) (hlen : bs.length + 4 ≤ 2147483647)
    (hr : -2147483648 ≤ r) (hr2 : r ≤ 2147483647) :
    Calls Tryd.prog 19 #[.pointer (some a), .int .i32 r] w fun e w' => e = .returned (.tuple #[]) ∧ Buf 5 w' base a (bs ++ runeB r) ∧ Kept base a w w' := by
  unfold runeB
  by_cases h : r < 128
  · rw [if_pos h]; exact writeRuneLow a base bs r w hb hg1 hlen hr h
  · rw [if_neg h]; exact writeRuneHigh a base bs r w hb hg1 hlen (by omega) hr2
end Go.Proofs.YtobmcifdnlnknaaDoor.Fm
