/- The law FnUnicodeSpec: its walk. -/
import Derived.Test.YtfpjkkjhdblmkaaDoorUsC
import Derived.Test.YtfpjkkjhdblmkaaDoorFrame
namespace Go.Proofs.YtfpjkkjhdblmkaaDoor.Fm
open Go.ChangeShapes Go.WideShapes Go.ChangeAt Go.RowKit Go.Fmt Go.Num

set_option maxRecDepth 100000 in
set_option maxHeartbeats 1000000 in
theorem usLaw (u : Int) (wp : Bool) (wid : Int) (pp : Bool) (prec : Int) (mi pl sh sp ze : Bool) (w : World) (hg1 : w.cell? ⟨0, 0, none⟩ = some (.int .i64 2147483647)) (hT : Lib.PrintTabsAt 2 3 4 5 Lib.goPrintTabs w) (hu0 : 0 ≤ u) (hu1 : u ≤ 18446744073709551615) :
    Calls Tryd.prog 6 #[.int .u64 u, .bool wp, .int .i64 wid, .bool pp, .int .i64 prec, .bool mi, .bool pl, .bool sh, .bool sp, .bool ze] w fun e w' => e = .returned (.bool true) ∧ Below w.heap.size w w' := by
  by_cases hw0 : wid < 0
  · clear hg1 hT
    go_enter Tryd.func6, Tryd.ntmps6
    go_wp2
    go_ret
    exact ⟨rfl, Below.refl _ _⟩
  by_cases hw1 : 65536 < wid
  · clear hg1 hT
    go_enter Tryd.func6, Tryd.ntmps6
    go_wp2
    go_ret
    exact ⟨rfl, Below.refl _ _⟩
  by_cases h0 : prec < 0
  · clear hg1 hT
    go_enter Tryd.func6, Tryd.ntmps6
    go_wp2
    go_ret
    exact ⟨rfl, Below.refl _ _⟩
  by_cases h1 : 65536 < prec
  · clear hg1 hT
    go_enter Tryd.func6, Tryd.ntmps6
    go_wp2
    go_ret
    exact ⟨rfl, Below.refl _ _⟩
  obtain ⟨m, rfl⟩ := Int.eq_ofNat_of_zero_le hu0
  by_cases h4 : 4 < prec
  · cases pp
    · exact usMainC m wp wid false prec mi pl sh sp ze 4 w hg1 hT (by omega) (by omega) (by omega) (by omega) (by omega) ⟨rfl, rfl⟩
    · exact usMainA m wp wid true prec mi pl sh sp ze prec.toNat w hg1 hT (by omega) (by omega) (by omega) (by omega) (by omega) ⟨rfl, h4, by omega⟩
  · cases pp
    · exact usMainC m wp wid false prec mi pl sh sp ze 4 w hg1 hT (by omega) (by omega) (by omega) (by omega) (by omega) ⟨rfl, rfl⟩
    · exact usMainB m wp wid true prec mi pl sh sp ze 4 w hg1 hT (by omega) (by omega) (by omega) (by omega) (by omega) ⟨rfl, by omega, rfl⟩
end Go.Proofs.YtfpjkkjhdblmkaaDoor.Fm
namespace Go.Proofs.YtfpjkkjhdblmkaaDoor
set_option linter.unusedSimpArgs false
open Fm
theorem fnUnicodeSpec.walk (a0 : Int) (a1 : Bool) (a2 : Int) (a3 : Bool) (a4 : Int) (a5 : Bool) (a6 : Bool) (a7 : Bool) (a8 : Bool) (a9 : Bool) (w : World) (w0 : (Lit.int .u64 a0).wf = true) (_w2 : (Lit.int .i64 a2).wf = true) (_w4 : (Lit.int .i64 a4).wf = true) (hL : laidMetH Tryd.prog Rows.fnUnicodeSpecRow.laid w) :
    Calls Tryd.prog 6 #[.int .u64 a0, .bool a1, .int .i64 a2, .bool a3, .int .i64 a4, .bool a5, .bool a6, .bool a7, .bool a8, .bool a9] w fun e w' => e = .returned (.bool true) ∧ RowKit.Below w.heap.size w w' := by
  rw [MakeChecks.laidMetH_plain _ _ _ (by kernel_rfl)] at hL
  refine usLaw a0 a1 a2 a3 a4 a5 a6 a7 a8 a9 w (maxl_at hL (by simp [Rows.fnUnicodeSpecRow, Rows.laid_github_com_d5_tengo_v2_MaxStringLen])) (tabs_laid hL ?_ ?_ ?_ ?_) (u64_wf w0).1 (u64_wf w0).2
  all_goals
    simp only [Rows.fnUnicodeSpecRow, Rows.laid_strconv_isPrint16, Rows.laid_strconv_isNotPrint16, Rows.laid_strconv_isPrint32, Rows.laid_strconv_isNotPrint32]
    simp only [List.mem_cons, Prod.mk.injEq, true_and, List.not_mem_nil, or_false, String.reduceEq, false_and, false_or, or_true, true_or]
end Go.Proofs.YtfpjkkjhdblmkaaDoor
