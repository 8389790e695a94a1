/-
  DERIVED. GIVEN WITH THE SEED: THE PROGRAM's TIES (one call each: nine closed facts by the kernel) AND EACH ROW's TIE, after the 31st guide's Derived/Test/Toyas{Tie, Card}.lean. No idea stands in it: it is a product of the set-up. Laid BY PROGRAM, IN A SANDBOX (cutbox-door.mjs). By AI agents, Wed Nov 11 2026. No macro, syntax, notation, axiom, sorry.
-/
import Derived.Test.YtaeinldkhjmleaaDoorRows
import Derived.LaidByTextLater
import Derived.SevenTiedAt
import Derived.LaidSub
import Derived.LaidOnce
namespace Go.Proofs.YtaeinldkhjmleaaDoor
open Go
set_option maxRecDepth 100000
theorem seatTie1 : Tryd.prog.laidByTextLater [("github.com/d5/tengo/v2.ErrInvalidOperator", Rows.laid_github_com_d5_tengo_v2_ErrInvalidOperator), ("github.com/d5/tengo/v2.ErrWrongNumArguments", Rows.laid_github_com_d5_tengo_v2_ErrWrongNumArguments)] [.sentinel, .sentinel] true :=
  Program.laidByTextLater_by_one 66 8 2 (by kernel_rfl) (by kernel_rfl) (by kernel_rfl) (by kernel_rfl) (by kernel_rfl) (by kernel_rfl) (fun _ _ => by kernel_rfl)
theorem noOwnUnsafe : Tryd.pinned.checked.prog.headLifts.contains "ownunsafe" = false := by kernel_rfl
theorem tie : Tryd.prog.laidByTextLater [("github.com/d5/tengo/v2.ErrInvalidOperator", Rows.laid_github_com_d5_tengo_v2_ErrInvalidOperator)] [.sentinel] true :=
  Program.laidByTextLater.sub seatTie1 ["github.com/d5/tengo/v2.ErrInvalidOperator"] (by kernel_rfl) (by kernel_rfl)
theorem fnImmutableArrayTypeNameFixed_row_tie : Rows.fnImmutableArrayTypeNameFixedRow.laidByTextAt .later Tryd.pinned [.sentinel] true :=
  OpenClaim.laidByTextAt_later rfl rfl tie noOwnUnsafe
theorem tie2 : Tryd.prog.laidByTextLater [("github.com/d5/tengo/v2.ErrWrongNumArguments", Rows.laid_github_com_d5_tengo_v2_ErrWrongNumArguments)] [.sentinel] true :=
  Program.laidByTextLater.sub seatTie1 ["github.com/d5/tengo/v2.ErrWrongNumArguments"] (by kernel_rfl) (by kernel_rfl)
theorem fnCopyRangeArrayFreshAndEqual_row_tie : Rows.fnCopyRangeArrayFreshAndEqualRow.laidByTextAt .later Tryd.pinned [.sentinel] true :=
  OpenClaim.laidByTextAt_later rfl rfl tie2 noOwnUnsafe
theorem fnImmutableArrayTypeNameFixedUpto_row_tie : Rows.fnImmutableArrayTypeNameFixedUptoRow.laidByTextAt .later Tryd.pinned [.sentinel] true :=
  OpenClaim.laidByTextAt_later rfl rfl tie noOwnUnsafe
theorem fnCopyRangeArrayFreshAndEqualUpto_row_tie : Rows.fnCopyRangeArrayFreshAndEqualUptoRow.laidByTextAt .later Tryd.pinned [.sentinel] true :=
  OpenClaim.laidByTextAt_later rfl rfl tie2 noOwnUnsafe
end Go.Proofs.YtaeinldkhjmleaaDoor
