/- The law FnFormatInstructionsOneLinePerInstruction: its walk. -/
import Derived.Test.YtjnoodilpffbiaaFmtAsm2
namespace Go.LawFrame
open Go.ChangeShapes Go.WideShapes Go.ChangeAt Go.RowKit
/-- A listed table of strings: every cell holds one. -/
theorem names_of_laid {P : Program} {W : World} {laid : List (String × DataW Unit)} {n : String} {ns : List (DataW Unit)} {g t e m : Nat} (h : laidMet P laid W) (hm : (n, .agg ns) ∈ laid)
    (hg : P.globalNamed n = some g) (ht : (P.globals[g]?).map (·.type) = some t) (hu : P.underlying t = some (.array m e)) (he : P.underlying e = some .string) (hce : P.cellsOf e = 1) :
    ∀ i, i < ns.length → ∃ s, W.cell? ⟨g, i, none⟩ = some (.string s) := by
  induction laid with
  | nil => cases hm
  | cons x r ih =>
    rcases List.mem_cons.1 hm with e1 | e1
    · subst e1
      obtain ⟨ps, ⟨g0, t0, cs0, f0, p0, q0, hg0, ht0, hv0, hd0, _, _⟩, _, _⟩ := h
      obtain rfl := Option.some.inj (hg.symm.trans hg0)
      obtain rfl := Option.some.inj (ht.symm.trans ht0)
      obtain ⟨xs, fu, _, hx, hl, hxl, hget⟩ := DataW.trod_array hu hd0
      have hx1 := congrArg Prod.fst hx
      simp only [DataW.agg.injEq] at hx1
      have hlen : ns.length = xs.length := by simpa using congrArg List.length hx1
      intro i hi
      have hi2 : i < xs.length := by omega
      have hgi := hget i (by omega)
      rw [hce, Nat.mul_one, List.getElem?_eq_getElem hi2] at hgi
      obtain ⟨s, hs, _, _⟩ := DataW.trod_string he hgi
      refine ⟨s, ?_⟩
      rw [World.var?_cell hg0 hv0 i]
      have h6 : (cs0.toList.drop i)[0]? = some (.string s) := by
        have h7 : ((cs0.toList.drop i).take 1)[0]? = (cs0.toList.drop i)[0]? := by simp
        rw [← h7, hs]; rfl
      simpa using h6
    · exact ih (laidMet.tail h) e1
end Go.LawFrame
namespace Go.Proofs.YtjnoodilpffbiaaFmt.Ft
open Go.ChangeShapes Go.WideShapes Go.ChangeAt Go.RowKit Go.Blk Go.Mk Go.LawFrame Go.Extern.Stop Go.Stop Go.Proofs.YtjnoodilpffbiaaFmt.Mk Go.Fmt Go.Proofs.YtjnoodilpffbiaaFmt.Fm

/-- The two tables as listed. -/
def Tabs (w : World) (nm : Nat → ByteArray) : Prop := (∀ op, op < 42 → RowIs w 0 op (widthsOf op)) ∧ ∀ op, op < 42 → w.cell? ⟨1, op, none⟩ = some (.string (nm op))
theorem Tabs.old {w w' : World} {nm : Nat → ByteArray} (h : Tabs w nm) (hb : Below w.heap.size w w') : Tabs w' nm :=
  ⟨fun op ho => (h.1 op ho).old hb, fun op ho => (hb.cell (World.block_lt_of_cell? w _ (h.2 op ho))).trans (h.2 op ho)⟩
theorem row_at (op : Nat) (_ : op < 42) (hh : op < opRows.length) : opRows[op] = widthsOf op := by
  unfold widthsOf
  rw [List.getD_eq_getElem?_getD, List.getElem?_eq_getElem hh]
  rfl
theorem tabs_of {w : World} {laid : List (String × DataW Unit)} (h : laidMetH Tryf.prog laid w) (hl : laid = [("github.com/d5/tengo/v2/parser.OpcodeNames", Rows.laid_github_com_d5_tengo_v2_parser_OpcodeNames), ("github.com/d5/tengo/v2/parser.OpcodeOperands", Rows.laid_github_com_d5_tengo_v2_parser_OpcodeOperands)]) : ∃ nm, Tabs w nm := by
  subst hl
  rw [MakeChecks.laidMetH_plain _ _ _ (by kernel_rfl)] at h
  have h1 := rows_of_laid (g := 0) (t := 33) (e := 23) (f := 3) (m := 42) (rows := opRows) (n := "github.com/d5/tengo/v2/parser.OpcodeOperands") h (List.mem_cons_of_mem _ (List.mem_cons_self ..)) (by kernel_rfl) (by kernel_rfl) Tryf.underlying33 Tryf.underlying23 Tryf.underlying3 (by kernel_rfl) (by kernel_rfl)
  have h2 := names_of_laid (g := 1) (t := 39) (e := 9) (m := 42) (n := "github.com/d5/tengo/v2/parser.OpcodeNames") h (List.mem_cons_self ..) (by kernel_rfl) (by kernel_rfl) Tryf.underlying39 Tryf.underlying9 (by kernel_rfl)
  refine ⟨fun op => match w.cell? ⟨1, op, none⟩ with | some (.string s) => s | _ => .empty, fun op ho => ?_, fun op ho => ?_⟩
  · have := h1 op (by simpa [opRows] using ho)
    rwa [row_at op ho] at this
  · obtain ⟨s, hs⟩ := h2 op (by simpa using ho)
    simp only [hs]

set_option maxRecDepth 100000 in
set_option maxHeartbeats 1000000 in
theorem fmtNil (q : Option Addr) (c : Nat) (p : Int) (w : World) : Calls Tryf.prog 10 #[.slice q 0 c, .int .i64 p] w fun e w' => e = .returned (.slice none 0 0) ∧ w = w' := by
  go_enter Tryf.func10, Tryf.ntmps10
  go_wp2
  go_loop [5, 6] (fun v iv => v = .slice none 0 0 ∧ iv = .int .i64 0) (fun _ _ => 0)
  case atStart => exact ⟨rfl, rfl⟩
  case round =>
    obtain ⟨rfl, rfl⟩ := hrel
    go_wp2
    go_ret
    exact ⟨rfl, rfl⟩
/-- What FormatInstructions gives. -/
def FmtOf (F : Interp) (nm : Nat → ByteArray) (p : Int) (insts : List (List Int)) (w : World) (e : Ending) (w' : World) : Prop :=
  ∃ q c, e = .returned (.slice q insts.length c) ∧ w'.ownsRow w.heap.size 9 1 (.slice q insts.length c) insts.length (lines F nm p 0 insts) ∧ Below w.heap.size w w'
theorem own_form {w : World} {B e n : Nat} {v : Value} {xs : List Value} (h : w.ownsRow B e 1 v n xs) : ∃ q c, v = .slice q n c ∧ n ≤ c ∧ c ≤ maxLen := by
  obtain ⟨_, ⟨rfl, rfl⟩ | ⟨g, cap, cur, rfl, _, _, h1, h2, _⟩⟩ := h
  · exact ⟨_, _, rfl, Nat.le_refl _, by simp⟩
  · exact ⟨_, _, rfl, h1, h2⟩
theorem fmtV (F : Interp) (nm : Nat → ByteArray) (insts : List (List Int)) (hI : ∀ i ∈ insts, Ins i) (p : Int) (v : Value) (B : Nat) (w : World) (hF : F.answers w.tape) (hv : w.ownsRow B 5 1 v insts.flatten.length (Mk.bytes insts.flatten)) (hin : insts.length ≤ 1000000) (hc : insts.flatten.length ≤ 1000000000)
    (ht : Tabs w nm) : Calls Tryf.prog 10 #[v, .int .i64 p] w (FmtOf F nm p insts w) := by
  by_cases h0 : insts.flatten.length = 0
  · have hn : insts = [] := by
      cases insts with
      | nil => rfl
      | cons i r =>
        obtain ⟨op, r', _, rfl, _⟩ := hI i (by simp)
        simp at h0
    subst hn
    obtain ⟨q, c, rfl, _, _⟩ := own_form hv
    refine (fmtNil q c p w).mono ?_
    rintro e w' ⟨rfl, rfl⟩
    exact ⟨none, 0, rfl, World.ownsRow_nil _ _ _ _, Below.refl _ _⟩
  · obtain ⟨g, c, rfl, _, _, hcell⟩ := own_some hv (by omega)
    obtain ⟨q', c', e1, h2, _⟩ := own_form hv
    simp only [Value.slice.injEq] at e1
    refine (fmtI F nm insts hI p g c w hF (fun j hj => hcell j _ (by rw [Mk.bytes, List.getElem?_map, List.getElem?_eq_getElem hj]; rfl)) (by omega) hc hin ht.1 ht.2).mono ?_
    rintro e w' ⟨v', rfl, h3, h4⟩
    obtain ⟨q2, c2, rfl, _, _⟩ := own_form h3
    exact ⟨q2, c2, rfl, h3, h4⟩
end Go.Proofs.YtjnoodilpffbiaaFmt.Ft
