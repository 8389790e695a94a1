/- A block of the call's own that is known whole: what it holds, a store into it, its making. Plain; no program. -/
import Derived.WalkKit
import Derived.Below
import Derived.OwnWalk
import Derived.Laws.OwnMore
import Derived.Lib.Hide
import Derived.Deep.QuietTactic
import Derived.BigQuiet
namespace Go.Blk
open Go.RowKit

/-- Block G holds just these cells; none is frozen. -/
def Blk (w : World) (G : Nat) (e : TypeId) (vs : List Value) : Prop := w.heap[G]? = some (.cells vs.toArray e (0, 0))

theorem Blk.lt {w : World} {G : Nat} {e : TypeId} {vs : List Value} (h : Blk w G e vs) : G < w.heap.size := (Array.getElem?_eq_some_iff.1 h).1
theorem Blk.cell? {w : World} {G : Nat} {e : TypeId} {vs : List Value} (h : Blk w G e vs) (j : Nat) : w.cell? ⟨G, j, none⟩ = vs[j]? := by
  unfold World.cell?
  simp only [show w.heap[G]? = _ from h]
  simp
theorem Blk.cell {w : World} {G : Nat} {e : TypeId} {vs : List Value} (h : Blk w G e vs) {j : Nat} (hj : j < vs.length) : w.cell? ⟨G, j, none⟩ = some vs[j] := by
  rw [h.cell?, List.getElem?_eq_getElem hj]
theorem Blk.frz {w : World} {G : Nat} {e : TypeId} {vs : List Value} (h : Blk w G e vs) (j : Nat) : w.frozen? ⟨G, j, none⟩ = false := by
  simp [World.frozen?, show w.heap[G]? = _ from h]
theorem Blk.rep {w : World} {G n j : Nat} {e : TypeId} {z : Value} (h : Blk w G e (List.replicate n z)) (hj : j < n) : w.cell? ⟨G, j, none⟩ = some z := by
  rw [h.cell?, List.getElem?_replicate, if_pos hj]
theorem Blk.set {w : World} {G : Nat} {e : TypeId} {vs : List Value} (h : Blk w G e vs) (j : Nat) (v : Value) : Blk (w.setCell ⟨G, j, none⟩ v) G e (vs.set j v) := by
  unfold Blk
  rw [heap_setCell_same w G j _ e v h]
  simp
theorem Blk.other {w : World} {G : Nat} {e : TypeId} {vs : List Value} (h : Blk w G e vs) (a : Addr) (v : Value) (hne : G ≠ a.block) : Blk (w.setCell a v) G e vs := by
  unfold Blk
  rw [heap_setCell_other w a G v hne]
  exact h
theorem Blk.below {w w' : World} {B G : Nat} {e : TypeId} {vs : List Value} (h : Blk w G e vs) (hb : Below B w w') (hG : G < B) : Blk w' G e vs := by
  unfold Blk
  rw [hb.block G hG]
  exact h
theorem Blk.old {w w' : World} {G : Nat} {e : TypeId} {vs : List Value} (h : Blk w G e vs) (hb : Below w.heap.size w w') : Blk w' G e vs := h.below hb h.lt
theorem Blk.drew {w : World} {G : Nat} {e : TypeId} {vs : List Value} (h : Blk w G e vs) : Blk w.drew G e vs := h
theorem Blk.drewN {w : World} {G n : Nat} {e : TypeId} {vs : List Value} (h : Blk w G e vs) : Blk (w.drewN n) G e vs := h
theorem blk_alloc (w : World) (vs : List Value) (e : TypeId) : Blk (w.alloc (.cells vs.toArray e)) w.heap.size e vs := heap_alloc_new w _

/-- A store behind 'A', where 'b' stands ahead of 'C'. -/
theorem set_at {α : Type} (A C : List α) (x y : α) : (A ++ x :: C).set A.length y = A ++ y :: C := by
  rw [List.set_append_right _ _ (Nat.le_refl _)]
  simp
theorem set_at' {α : Type} {A C : List α} {x y : α} {n : Nat} (h : A.length = n) : (A ++ x :: C).set n y = A ++ y :: C := by
  subst h; exact set_at A C x y

/-- 'make([]T, n)', the new block known whole. -/
theorem make_blk {P : Program} {w : World} {ops : Array Oper} {rest : List Oper} {o : Oper} {a : Act} {Q : Exit → Act → World → Prop}
    (hg : o.guard = none) (l : Operand) (t : TypeId) (hop : o.op = Op.makeSlice t l l) (e : TypeId) (h1 : P.underlying t = some (.slice e))
    (z : Value) (by' : Nat) (hinfo : (P.info? e).map (fun i => (i.zero, i.size, i.bytes)) = some (some z, 1, by')) (L : Int) (n : Nat) (hl : a.eval l = .int .i64 L) (hL : L = (n : Int)) (b2 : n * by' ≤ 281474976710656) (b3 : n ≤ 281474976710656) (hc : z.cells = #[z])
    (hK : ∀ w', Blk w' w.heap.size e (List.replicate n z) → Below w.heap.size w w' → wpList P ops Q rest (a.put o.dst (.slice (some ⟨w.heap.size, 0, none⟩) n n)) w') :
    wpList P ops Q (o :: rest) a w := by
  obtain ⟨i, hi, hz', hs, hb⟩ := info_parts hinfo
  refine wpList_make_full w hg l l t hop w.heap.size e i z 1 h1 hi hz' hs .i64 .i64 L L n hl hl hL hL (by rw [hb, Nat.mul_comm]; exact b2) (by unfold maxLen; omega) (Nat.le_refl _) ?_
  intro w' ho hgr
  refine hK w' ?_ ((Below.refl _ w).grown hgr (Nat.le_refl _) (fun k hk => by cases hk))
  obtain ⟨h0, ⟨h2, _⟩ | ⟨g, cap, cur, h2, h3, h4, h5, h6, h7, h8⟩⟩ := ho
  · cases h2
  · cases h2
    unfold Blk
    rw [h4]
    rw [hc] at h8
    have e1 : cur.toList = List.replicate n z := by
      rw [List.take_of_length_le (by simp [h7])] at h8
      rw [h8]
      simp [toList_madeCells_one]
    rw [← e1]
end Go.Blk
