/-
  DERIVED. GIVEN WITH THE SEED: THE PROGRAM's TIES (one call each: nine closed facts by the kernel) AND EACH ROW's TIE, after the 31st guide's Derived/Test/Toyas{Tie, Card}.lean. No idea stands in it: it is a product of the set-up. Laid BY PROGRAM, IN A SANDBOX (cutbox-door.mjs). By AI agents, Wed Nov 11 2026. No macro, syntax, notation, axiom, sorry.
-/
import Derived.Test.YtnjinknpckkioaaDoorRows
import Derived.LaidByTextLater
import Derived.SevenTiedAt
import Derived.LaidSub
import Derived.LaidOnce
namespace Go.Proofs.YtnjinknpckkioaaDoor
open Go
set_option maxRecDepth 100000
theorem seatTie1 : Tryd.prog.laidByTextLater [("github.com/d5/tengo/v2.ErrInvalidOperator", Rows.laid_github_com_d5_tengo_v2_ErrInvalidOperator), ("github.com/d5/tengo/v2.ErrBytesLimit", Rows.laid_github_com_d5_tengo_v2_ErrBytesLimit), ("github.com/d5/tengo/v2.MaxBytesLen", Rows.laid_github_com_d5_tengo_v2_MaxBytesLen)] [.sentinel, .sentinel, .data] true :=
  Program.laidByTextLater_by_one 127 8 76 (by kernel_rfl) (by kernel_rfl) (by kernel_rfl) (by kernel_rfl) (by kernel_rfl) (by kernel_rfl) (fun _ _ => by kernel_rfl)
theorem noOwnUnsafe : Tryd.pinned.checked.prog.headLifts.contains "ownunsafe" = false := by kernel_rfl
theorem tie : Tryd.prog.laidByTextLater [("github.com/d5/tengo/v2.ErrInvalidOperator", Rows.laid_github_com_d5_tengo_v2_ErrInvalidOperator), ("github.com/d5/tengo/v2.ErrBytesLimit", Rows.laid_github_com_d5_tengo_v2_ErrBytesLimit), ("github.com/d5/tengo/v2.MaxBytesLen", Rows.laid_github_com_d5_tengo_v2_MaxBytesLen)] [.sentinel, .sentinel, .data] true :=
  Program.laidByTextLater.sub seatTie1 ["github.com/d5/tengo/v2.ErrInvalidOperator", "github.com/d5/tengo/v2.ErrBytesLimit", "github.com/d5/tengo/v2.MaxBytesLen"] (by kernel_rfl) (by kernel_rfl)
theorem fnBytesAddRefusesOtherTypes_row_tie : Rows.fnBytesAddRefusesOtherTypesRow.laidByTextAt .later Tryd.pinned [.sentinel, .sentinel, .data] true :=
  OpenClaim.laidByTextAt_later rfl rfl tie noOwnUnsafe
theorem fnBytesAddConcat_row_tie : Rows.fnBytesAddConcatRow.laidByTextAt .later Tryd.pinned [.sentinel, .sentinel, .data] true :=
  OpenClaim.laidByTextAt_later rfl rfl tie noOwnUnsafe
theorem fnBytesCopyAddAgrees_row_tie : Rows.fnBytesCopyAddAgreesRow.laidByTextAt .later Tryd.pinned [.sentinel, .sentinel, .data] true :=
  OpenClaim.laidByTextAt_later rfl rfl tie noOwnUnsafe
theorem fnBytesAddRefusesOtherTypesUpto_row_tie : Rows.fnBytesAddRefusesOtherTypesUptoRow.laidByTextAt .later Tryd.pinned [.sentinel, .sentinel, .data] true :=
  OpenClaim.laidByTextAt_later rfl rfl tie noOwnUnsafe
theorem fnBytesAddConcatUpto_row_tie : Rows.fnBytesAddConcatUptoRow.laidByTextAt .later Tryd.pinned [.sentinel, .sentinel, .data] true :=
  OpenClaim.laidByTextAt_later rfl rfl tie noOwnUnsafe
theorem fnBytesCopyAddAgreesUpto_row_tie : Rows.fnBytesCopyAddAgreesUptoRow.laidByTextAt .later Tryd.pinned [.sentinel, .sentinel, .data] true :=
  OpenClaim.laidByTextAt_later rfl rfl tie noOwnUnsafe
end Go.Proofs.YtnjinknpckkioaaDoor
