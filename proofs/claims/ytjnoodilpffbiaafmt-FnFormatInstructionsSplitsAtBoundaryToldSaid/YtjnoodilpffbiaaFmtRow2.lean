/- An append of a slice that lies elsewhere or is nil; what keeps such a slice. -/
import Derived.Test.YtjnoodilpffbiaaFmtRow
namespace Go.Fmt
open Go.RowKit

theorem RowAt.below {w w' : World} {p : Option Addr} {l B : Nat} {bs : List UInt8} (h : RowAt w p l bs) (hb : Below B w w') (hB : ∀ x, p = some x → x.block < B) : RowAt w' p l bs := by
  rcases h with h | ⟨x, h1, h2, h3⟩
  · exact .inl h
  · exact .inr ⟨x, h1, h2, fun j hj => (hb.cell (by
      have e : (x.add j).block = x.block := by unfold Addr.add; split <;> rfl
      rw [e]; exact hB x h1)).trans (h3 j hj)⟩
theorem RowAt.old {w w' : World} {p : Option Addr} {l : Nat} {bs : List UInt8} (h : RowAt w p l bs) (hb : Below w.heap.size w w') : RowAt w' p l bs := by
  rcases h with h | ⟨x, h1, h2, h3⟩
  · exact .inl h
  · exact .inr ⟨x, h1, h2, fun j hj => (hb.cell (World.block_lt_of_cell? w _ (h3 j hj))).trans (h3 j hj)⟩
theorem RowAt.of_own {w : World} {base n cap : Nat} {e : TypeId} {p : Option Addr} {bs : List UInt8} (h : w.ownsRow base e 1 (.slice p bs.length cap) n (bcells bs)) : RowAt w p bs.length bs := by
  obtain ⟨h0, ⟨h1, h1'⟩ | ⟨g', cap', cur, h1, h2, h3, h4, h5, h6, h7⟩⟩ := h
  · simp only [Value.slice.injEq] at h1
    exact .inl ⟨h1.1, h1.2.1, List.length_eq_zero_iff.1 h1.2.1⟩
  · simp only [Value.slice.injEq] at h1
    obtain ⟨rfl, rfl, rfl⟩ := h1
    refine .inr ⟨⟨g', 0, none⟩, rfl, rfl, fun j hj => ?_⟩
    simp only [Nat.mul_one] at h6 h7
    have h8 : (bcells bs)[j]? = some (.int .u8 (bs[j].toNat : Int)) := by simp [bcells, List.getElem?_eq_getElem hj]
    rw [← h7, List.getElem?_take, if_pos hj, Array.getElem?_toList] at h8
    rw [addr_add0]
    unfold World.cell?
    simp only [h3]
    simpa using h8
theorem RowAt.cells {w : World} {x : Addr} {l : Nat} {bs : List UInt8} (h3 : ∀ j (hj : j < bs.length), w.cell? (x.add j) = some (.int .u8 (bs[j].toNat : Int))) (_ : l = bs.length) : ∀ j u, (bcells bs)[j]? = some u → w.cell? (x.add j) = some u := by
  intro j u hj
  have hl := (List.getElem?_eq_some_iff.1 hj).1
  rw [bcells_length] at hl
  rw [h3 j hl]
  simp [bcells, List.getElem?_eq_getElem hl] at hj
  rw [← hj]

/-- 'append(b, c..)' at whatever slice of bytes. -/
theorem append_any {P : Program} {ops : Array Oper} {rest : List Oper} {o : Oper} {a : Act} {Q : Exit → Act → World → Prop} {w : World} (hgd : o.guard = none) (sl x : Operand) (t u : TypeId)
    (ho : o.op = .call { callee := .builtin .append, args := #[sl, x], argTypes := #[t, u] })
    (base : Nat) (e : TypeId) (ht : P.underlying t = some (.slice e)) (hu : P.underlying u = some (.slice e)) (hinfo : (P.info? e).map (fun i => (i.zero, i.size, i.bytes)) = some (some (.int .u8 0), 1, 1))
    (p : Option Addr) (bs : List UInt8) (cap : Nat) (hs : a.eval sl = .slice p bs.length cap) (hown : w.ownsRow base e 1 (.slice p bs.length cap) bs.length (bcells bs))
    (q : Option Addr) (c : Nat) (cs : List UInt8) (hx : a.eval x = .slice q cs.length c) (hr : RowAt w q cs.length cs) (hc : q = none → c = 0)
    (hlen : bs.length + cs.length ≤ 140737488355328) (hbase : base ≤ w.heap.size)
    (h : ∀ p' cap' w', w'.ownsRow base e 1 (.slice p' (bs.length + cs.length) cap') (bs ++ cs).length (bcells (bs ++ cs)) → bs.length + cs.length ≤ cap' → cap' ≤ maxLen → w.grownBy w' (Value.slice p bs.length cap).ownBlock → wpList P ops Q rest (a.put o.dst (.slice p' (bs.length + cs.length) cap')) w') :
    wpList P ops Q (o :: rest) a w := by
  rcases hr with ⟨rfl, _, rfl⟩ | ⟨y, rfl, _, hy⟩
  · obtain rfl := hc rfl
    refine append_none2 hgd sl x t u ho base e ht hu hinfo p bs.length cap _ hs hown hx ?_
    obtain ⟨p', cap', e1, h4, h5⟩ := ownsRow_form hown
    simp only [Value.slice.injEq] at e1
    obtain ⟨rfl, _, rfl⟩ := e1
    exact h p cap w (by simpa using hown) (by simpa using h4) h5 ⟨rfl, rfl, rfl, Nat.le_refl _, fun _ _ _ => rfl⟩
  · exact append_row2 hgd sl x t u ho base e ht hu hinfo p bs cap hs hown y c cs hx (RowAt.cells hy rfl) hlen hbase h
end Go.Fmt
