/- A buffer in a formatter's own array or in a new one: what stands behind writes into it. Plain; no walk. -/
import Derived.Test.YtlekmfkcbgkfgaaDoorNewF
namespace Go.Proofs.YtlekmfkcbgkfgaaDoor.Fm
open Go.ChangeShapes Go.WideShapes Go.ChangeAt Go.RowKit Go.Fmt

/-- Only cells of block G from offset O on have turned. -/
structure Wr (G O : Nat) (w w' : World) : Prop where
  os : w'.os = w.os
  tape : w'.tape = w.tape
  output : w'.output = w.output
  size : w'.heap.size = w.heap.size
  block : ∀ k, k ≠ G → w'.heap[k]? = w.heap[k]?
  low : ∀ j, j < O → w'.cell? ⟨G, j, none⟩ = w.cell? ⟨G, j, none⟩
  there : ∀ j, (∃ v, w.cell? ⟨G, j, none⟩ = some v) → ∃ v, w'.cell? ⟨G, j, none⟩ = some v
  frz : ∀ j, w'.frozen? ⟨G, j, none⟩ = w.frozen? ⟨G, j, none⟩
theorem Wr.refl (G O : Nat) (w : World) : Wr G O w w := ⟨rfl, rfl, rfl, rfl, fun _ _ => rfl, fun _ _ => rfl, fun _ h => h, fun _ => rfl⟩
theorem Wr.set {G O j : Nat} {w w' : World} {v : Value} (h : Wr G O w w') (hj : O ≤ j) : Wr G O w (w'.setCell ⟨G, j, none⟩ v) := by
  refine ⟨h.os, h.tape, h.output, by simpa using h.size, fun k hk => by rw [heap_setCell_other _ _ _ _ hk]; exact h.block k hk, fun i hi => ?_, fun i hi => ?_, fun i => by rw [World.frozen?_setCell]; exact h.frz i⟩
  · rw [World.cell?_setCell_other _ _ _ _ (fun e => by have := congrArg Addr.off e; simp at this; omega)]; exact h.low i hi
  · obtain ⟨u, hu⟩ := h.there i hi
    by_cases hij : j = i
    · subst hij; exact ⟨v, World.cell?_setCell_same _ _ _ hu⟩
    · exact ⟨u, by rw [World.cell?_setCell_other _ _ _ _ (fun e => hij (congrArg Addr.off e))]; exact hu⟩
theorem Wr.below {G O N : Nat} {w w' : World} (h : Wr G O w w') (hG : N ≤ G) : Below N w w' := ⟨h.os, h.tape, h.output, Nat.le_of_eq h.size.symm, fun k hk => h.block k (by omega)⟩

/-- A new formatter: its buffer is nil. -/
structure Fresh (w : World) (N F B : Nat) (f : Flags) : Prop where
  fmt : FmtAt w F ⟨B, 0, none⟩ f
  nil : w.cell? ⟨B, 0, none⟩ = some (.slice none 0 0)
  nfr : w.frozen? ⟨B, 0, none⟩ = false
  lf : N ≤ F
  lb : N ≤ B
  ne : F ≠ B
  ltf : F < w.heap.size
  ltb : B < w.heap.size
  maxl : 0 < N
theorem Fresh.live {w : World} {N F B : Nat} {f : Flags} (h : Fresh w N F B f) : Live w N w.heap.size F B f [] :=
  ⟨h.lf, h.lb, h.ne, h.ltf, h.maxl, h.fmt, Buf.of_nil h.nil h.nfr h.ltb (Nat.le_refl _)⟩
theorem Fresh.grow {w w' : World} {N F B : Nat} {f : Flags} (h : Fresh w N F B f) (hb : Below w.heap.size w w') : Fresh w' N F B f :=
  ⟨h.fmt.below hb h.ltf, (hb.cell h.ltb).trans h.nil, (hb.frozen (p := ⟨B, 0, none⟩) h.ltb).trans h.nfr, h.lf, h.lb, h.ne, Nat.lt_of_lt_of_le h.ltf hb.size, Nat.lt_of_lt_of_le h.ltb hb.size, h.maxl⟩

/-- Where the buffer lies. -/
structure At0 (w : World) (N F B G O L : Nat) : Prop where
  gb : G ≠ B
  gf : G = F → 15 ≤ O
  ng : N ≤ G
  lt : G < w.heap.size
  room : ∀ j, j < L → (∃ v, w.cell? ⟨G, O + j, none⟩ = some v) ∧ w.frozen? ⟨G, O + j, none⟩ = false
theorem Fresh.wr {w w' : World} {N F B G O L : Nat} {f : Flags} (h : Fresh w N F B f) (ha : At0 w N F B G O L) (hw : Wr G O w w') : Fresh w' N F B f := by
  have hB : ∀ a, a.block = B → w'.cell? a = w.cell? a := fun a e => World.cell?_of_block (hw.block a.block (by rw [e]; exact Ne.symm ha.gb))
  have hF : ∀ j, j < 15 → w'.cell? ⟨F, j, none⟩ = w.cell? ⟨F, j, none⟩ := fun j hj => by
    by_cases hg : G = F
    · have h1 := hw.low j (by have := ha.gf hg; omega)
      rw [hg] at h1; exact h1
    · exact World.cell?_of_block (a := ⟨F, j, none⟩) (hw.block F (Ne.symm hg))
  have q := h.fmt
  refine ⟨⟨(hF 0 (by omega)).trans q.buf, (hF 1 (by omega)).trans q.widP, (hF 2 (by omega)).trans q.precP, (hF 3 (by omega)).trans q.minus, (hF 4 (by omega)).trans q.plus, (hF 5 (by omega)).trans q.sharp, (hF 6 (by omega)).trans q.space, (hF 7 (by omega)).trans q.zero, (hF 13 (by omega)).trans q.wid, (hF 14 (by omega)).trans q.prec,
    fun j a1 a2 => ?_, fun j => ?_⟩, (hB _ rfl).trans h.nil, ?_, h.lf, h.lb, h.ne, by rw [hw.size]; exact h.ltf, by rw [hw.size]; exact h.ltb, h.maxl⟩
  · by_cases hg : G = F
    · have h1 := hw.there j
      rw [hg] at h1; exact h1 (q.scratch j a1 a2)
    · rw [World.cell?_of_block (a := ⟨F, j, none⟩) (hw.block F (Ne.symm hg))]; exact q.scratch j a1 a2
  · by_cases hg : G = F
    · have h1 := hw.frz j
      rw [hg] at h1; exact h1.trans (q.frz j)
    · rw [World.frozen?_of_block (a := ⟨F, j, none⟩) (hw.block F (Ne.symm hg))]; exact q.frz j
  · rw [World.frozen?_of_block (a := ⟨B, 0, none⟩) (hw.block B (Ne.symm ha.gb))]; exact h.nfr
theorem At0.wr {w w' : World} {N F B G O L : Nat} (h : At0 w N F B G O L) (hw : Wr G O w w') : At0 w' N F B G O L :=
  ⟨h.gb, h.gf, h.ng, by rw [hw.size]; exact h.lt, fun j hj => ⟨hw.there _ (h.room j hj).1, (hw.frz _).trans (h.room j hj).2⟩⟩
/-- The formatter's own array. -/
theorem Fresh.own {w : World} {N F B : Nat} {f : Flags} (h : Fresh w N F B f) : At0 w N F B F 15 68 :=
  ⟨h.ne, fun _ => Nat.le_refl _, h.lf, h.ltf, fun j hj => ⟨h.fmt.scratch _ (by omega) (by omega), h.fmt.frz _⟩⟩

end Go.Proofs.YtlekmfkcbgkfgaaDoor.Fm
