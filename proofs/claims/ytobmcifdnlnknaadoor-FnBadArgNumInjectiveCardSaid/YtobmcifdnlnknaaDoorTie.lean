/-
  DERIVED. GIVEN WITH THE SEED: THE PROGRAM's TIES (one call each: nine closed facts by the kernel) AND EACH ROW's TIE, after the 31st guide's Derived/Test/Toyas{Tie, Card}.lean. No idea stands in it: it is a product of the set-up. Laid BY PROGRAM, IN A SANDBOX (cutbox-door.mjs). By AI agents, Wed Nov 11 2026. No macro, syntax, notation, axiom, sorry.
-/
import Derived.Test.YtobmcifdnlnknaaDoorRows
import Derived.LaidByTextLater
import Derived.SevenTiedAt
import Derived.LaidSub
import Derived.LaidOnce
namespace Go.Proofs.YtobmcifdnlnknaaDoor
open Go
set_option maxRecDepth 100000
theorem seatTie1 : Tryd.prog.laidByTextLater [("github.com/d5/tengo/v2.ErrInvalidOperator", Rows.laid_github_com_d5_tengo_v2_ErrInvalidOperator), ("github.com/d5/tengo/v2.ErrStringLimit", Rows.laid_github_com_d5_tengo_v2_ErrStringLimit), ("github.com/d5/tengo/v2.MaxStringLen", Rows.laid_github_com_d5_tengo_v2_MaxStringLen)] [.sentinel, .sentinel, .data] true :=
  Program.laidByTextLater_by_one 51 8 2 (by kernel_rfl) (by kernel_rfl) (by kernel_rfl) (by kernel_rfl) (by kernel_rfl) (by kernel_rfl) (fun _ _ => by kernel_rfl)
theorem noOwnUnsafe : Tryd.pinned.checked.prog.headLifts.contains "ownunsafe" = false := by kernel_rfl
theorem tie : Tryd.prog.laidByTextLater [("github.com/d5/tengo/v2.ErrStringLimit", Rows.laid_github_com_d5_tengo_v2_ErrStringLimit), ("github.com/d5/tengo/v2.MaxStringLen", Rows.laid_github_com_d5_tengo_v2_MaxStringLen)] [.sentinel, .data] true :=
  Program.laidByTextLater.sub seatTie1 ["github.com/d5/tengo/v2.ErrStringLimit", "github.com/d5/tengo/v2.MaxStringLen"] (by kernel_rfl) (by kernel_rfl)
theorem fnBadArgNumExact_row_tie : Rows.fnBadArgNumExactRow.laidByTextAt .later Tryd.pinned [.sentinel, .data] true :=
  OpenClaim.laidByTextAt_later rfl rfl tie noOwnUnsafe
theorem fnMissingArgExact_row_tie : Rows.fnMissingArgExactRow.laidByTextAt .later Tryd.pinned [.sentinel, .data] true :=
  OpenClaim.laidByTextAt_later rfl rfl tie noOwnUnsafe
theorem fnBadArgNumInjective_row_tie : Rows.fnBadArgNumInjectiveRow.laidByTextAt .later Tryd.pinned [.sentinel, .data] true :=
  OpenClaim.laidByTextAt_later rfl rfl tie noOwnUnsafe
theorem tie2 : Tryd.prog.laidByTextLater [("github.com/d5/tengo/v2.ErrInvalidOperator", Rows.laid_github_com_d5_tengo_v2_ErrInvalidOperator)] [.sentinel] true :=
  Program.laidByTextLater.sub seatTie1 ["github.com/d5/tengo/v2.ErrInvalidOperator"] (by kernel_rfl) (by kernel_rfl)
theorem fnBinaryOpRefusalInheritedByMapUndefinedError_row_tie : Rows.fnBinaryOpRefusalInheritedByMapUndefinedErrorRow.laidByTextAt .later Tryd.pinned [.sentinel] true :=
  OpenClaim.laidByTextAt_later rfl rfl tie2 noOwnUnsafe
theorem fnBadArgNumExactUpto_row_tie : Rows.fnBadArgNumExactUptoRow.laidByTextAt .later Tryd.pinned [.sentinel, .data] true :=
  OpenClaim.laidByTextAt_later rfl rfl tie noOwnUnsafe
theorem fnMissingArgExactUpto_row_tie : Rows.fnMissingArgExactUptoRow.laidByTextAt .later Tryd.pinned [.sentinel, .data] true :=
  OpenClaim.laidByTextAt_later rfl rfl tie noOwnUnsafe
theorem fnBadArgNumInjectiveUpto_row_tie : Rows.fnBadArgNumInjectiveUptoRow.laidByTextAt .later Tryd.pinned [.sentinel, .data] true :=
  OpenClaim.laidByTextAt_later rfl rfl tie noOwnUnsafe
theorem fnBinaryOpRefusalInheritedByMapUndefinedErrorUpto_row_tie : Rows.fnBinaryOpRefusalInheritedByMapUndefinedErrorUptoRow.laidByTextAt .later Tryd.pinned [.sentinel] true :=
  OpenClaim.laidByTextAt_later rfl rfl tie2 noOwnUnsafe
end Go.Proofs.YtobmcifdnlnknaaDoor
