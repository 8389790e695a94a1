/- A listed table of rows of integers: what its cells hold. Plain; no program. -/
import Derived.Test.YtjnoodilpffbiaaFmtFrame
namespace Go.LawFrame
open Go.ChangeShapes Go.WideShapes Go.ChangeAt Go.RowKit

/-- Row i of the table in variable g reads as zs. -/
def RowIs (w : World) (g i : Nat) (zs : List Int) : Prop :=
  ∃ a cap, w.cell? ⟨g, i, none⟩ = some (.slice (some a) zs.length cap) ∧ zs.length ≤ cap ∧ cap ≤ maxLen ∧ ∀ j (hj : j < zs.length), w.cell? (a.add j) = some (.int .i64 zs[j])

theorem lits_inj {H : Type} {k : IntKind} : ∀ {a b : List Int}, lits (H := H) k a = lits k b → a = b
  | [], [], _ => rfl
  | [], _ :: _, h => by simp [lits] at h
  | _ :: _, [], h => by simp [lits] at h
  | x :: a, y :: b, h => by
    simp only [lits, List.map_cons, List.cons.injEq, DataW.lit.injEq, Lit.int.injEq, true_and] at h
    rw [h.1, lits_inj (H := H) (k := k) h.2]

theorem rows_of_laid {P : Program} {W : World} {laid : List (String × DataW Unit)} {n : String} {rows : List (List Int)} {g t e f m : Nat} (h : laidMet P laid W) (hm : (n, .agg (rows.map fun zs => .slice (lits .i64 zs) [])) ∈ laid)
    (hg : P.globalNamed n = some g) (ht : (P.globals[g]?).map (·.type) = some t) (hu : P.underlying t = some (.array m e)) (he : P.underlying e = some (.slice f)) (hf : P.underlying f = some (.int .i64)) (hc : P.cellsOf f = 1) (hce : P.cellsOf e = 1) :
    ∀ i (hi : i < rows.length), RowIs W g i rows[i] := by
  induction laid with
  | nil => cases hm
  | cons x r ih =>
    rcases List.mem_cons.1 hm with e1 | e1
    · subst e1
      obtain ⟨ps, ⟨g0, t0, cs0, f0, p0, q0, hg0, ht0, hv0, hd0, _, _⟩, _, _⟩ := h
      obtain rfl := Option.some.inj (hg.symm.trans hg0)
      obtain rfl := Option.some.inj (ht.symm.trans ht0)
      obtain ⟨xs, fu, _, hx, hl, hxl, hget⟩ := DataW.trod_array hu hd0
      have hx1 := congrArg Prod.fst hx
      simp only [DataW.agg.injEq] at hx1
      have hlen : rows.length = xs.length := by simpa using congrArg List.length hx1
      intro i hi
      have hi2 : i < xs.length := by omega
      have hgi := hget i (by omega)
      rw [hce, Nat.mul_one, List.getElem?_eq_getElem hi2] at hgi
      have hxi : (xs[i]).1 = .slice (lits .i64 rows[i]) [] := by
        have h1 : (xs.map (·.1))[i]? = (rows.map fun zs => DataW.slice (lits (H := Unit) .i64 zs) [])[i]? := by rw [← hx1]
        simp only [List.getElem?_map, List.getElem?_eq_getElem hi2, List.getElem?_eq_getElem hi, Option.map_some, Option.some.injEq] at h1
        exact h1
      rcases open_ints he hf hc hgi with ⟨hcs, hx0⟩ | ⟨a, l, c, zs, hcs, _, hlc, hm', hz, hx0, hcell, hwz⟩
      · rw [hx0] at hxi; cases hxi
      · rw [hx0] at hxi
        simp only [DataW.slice.injEq] at hxi
        have h1 := lits_inj hxi.1
        have h2 : zs.drop l = [] := lits_inj (H := Unit) (k := .i64) (by simpa [lits] using hxi.2)
        have h3 : zs.length ≤ l := List.drop_eq_nil_iff.1 h2
        have h4 : l ≤ zs.length := by rw [hz]; split <;> omega
        have h5 : zs.take l = zs := List.take_of_length_le h3
        rw [h5] at h1
        subst h1
        have hll : l = rows[i].length := by omega
        subst hll
        have hci : W.cell? ⟨g, i, none⟩ = some (.slice (some a) rows[i].length c) := by
          rw [World.var?_cell hg0 hv0 i]
          have h6 : (cs0.toList.drop i)[0]? = some (.slice (some a) rows[i].length c) := by
            have h7 : ((cs0.toList.drop i).take 1)[0]? = (cs0.toList.drop i)[0]? := by simp
            rw [← h7, hcs]; rfl
          simpa using h6
        refine ⟨a, c, hci, hlc, hm', fun j hj => ?_⟩
        rw [hcell j hj, List.getD_eq_getElem?_getD, List.getElem?_eq_getElem hj]
        rfl
    · exact ih (laidMet.tail h) e1
end Go.LawFrame
