/- The law FnImmutableArrayStringAgreesWithArrayAndCopy, at every argument. -/
import Derived.Test.YtaeinldkhjmleaaFmtSa
namespace Go.Proofs.YtaeinldkhjmleaaFmt.Ob
open Go.ChangeShapes Go.WideShapes Go.ChangeAt Go.RowKit Go.Blk Go.Proofs.YtaeinldkhjmleaaFmt.Fi
theorem bounds_of {p : Option Addr} {w : World} {len cap : Nat} {zs : List Int} (h : LawFrame.IsRow .i64 8 w p len cap zs) : ∃ xs, RowI w p xs ∧ xs.length = len ∧ len * 8 ≤ 140737488351232 ∧ ∀ v ∈ xs, -9223372036854775808 ≤ v ∧ v ≤ 9223372036854775807 := by
  rcases h with ⟨h1, h2, h3, h4⟩ | ⟨x, h1, h2, h3, h4, h5, h6⟩
  · exact ⟨[], .inl ⟨h1, rfl⟩, by simp [h2], by omega, fun v hv => by simp at hv⟩
  · refine ⟨zs.take len, .inr ⟨x, h1, fun j hj => ?_⟩, by simp; omega, by omega, fun v hv => bounds_i64 (h6 v (List.mem_of_mem_take hv))⟩
    have hj' : j < zs.length := by simp at hj; omega
    rw [h5 j hj', List.getD_eq_getElem?_getD, List.getElem?_eq_getElem hj', List.getElem_take]
    rfl
set_option maxHeartbeats 2000000 in
theorem saLaw (F : Stop.Interp) (T : Nat → Int) (p : Option Addr) (c : Nat) (xs : List Int) (w : World) (hF : F.answers w.tape) (hT : Tab T w) (hx : RowI w p xs) (hv : ∀ v ∈ xs, -9223372036854775808 ≤ v ∧ v ≤ 9223372036854775807) (hl : xs.length ≤ 140737488351232) :
    Calls Tryf.prog 4 #[.slice p xs.length c] w fun e w' => e = .returned (.bool true) ∧ Below w.heap.size w w' := by
  by_cases h0 : xs.length ≤ 1048576
  · by_cases h1 : xs.length ≤ 131072
    · exact saMain F T p c xs w hF hT hx hv h1
    · have HG := Lib.hid (decide_eq_true h0)
      clear hx h0 hF hT hv
      go_enter Tryf.func4, Tryf.ntmps4
      go_wp2_with (fail)
      refine (guardSA _ _ _ _ hl).mono ?_
      rintro e w' ⟨rfl, rfl⟩
      rw [HG.out]
      go_wp2
      go_ret
      exact ⟨rfl, Below.refl _ _⟩
  · have HG := Lib.hid (decide_eq_false h0)
    clear hx h0 hF hT hv
    go_enter Tryf.func4, Tryf.ntmps4
    go_wp2_with (fail)
    refine (guardSA _ _ _ _ hl).mono ?_
    rintro e w' ⟨rfl, rfl⟩
    rw [HG.out]
    go_wp2
    go_ret
    exact ⟨rfl, Below.refl _ _⟩
end Go.Proofs.YtaeinldkhjmleaaFmt.Ob
namespace Go.Proofs.YtaeinldkhjmleaaFmt
open Go.Proofs.YtaeinldkhjmleaaFmt.Ob Go.RowKit
theorem fnImmutableArrayStringAgreesWithArrayAndCopy.walk (a0 : Option Addr) (len0 cap0 : Nat) (z0 : List Int) (w : World) (w0 : LawFrame.IsRow .i64 8 w a0 len0 cap0 z0) (F : Stop.Interp) (hF : F.answers w.tape) (hT : ∃ T : Nat → Int, Fi.Tab T w) :
    Calls Tryf.prog 4 #[.slice a0 len0 cap0] w fun e w' => e = .returned (.bool true) ∧ Below w.heap.size w w' := by
  obtain ⟨xs, hx, rfl, h8, hv⟩ := bounds_of w0
  obtain ⟨T, hT⟩ := hT
  exact saLaw F T a0 cap0 xs w hF hT hx hv (by omega)
end Go.Proofs.YtaeinldkhjmleaaFmt
