/- zzCountConsts: the row of constants, the inner rows and maps: plain laws and arms. -/
import Derived.Test.YtehfbmkaojlbeaaGreatCm
import Derived.Test.YtehfbmkaojlbeaaGreatCi
import Derived.Maps.AppendAt
import Derived.StringKeys
namespace Go.Proofs.YtehfbmkaojlbeaaGreat.Co
open Go.ChangeShapes Go.WideShapes Go.ChangeAt Go.RowKit Go.Maps Go.Lib
theorem infoO : (Tryz.prog.info? 53).map (fun i => (i.zero, i.size, i.bytes)) = some (some .nilIface, 1, 16) := by kernel_rfl
/-- Numbers that came in. -/
def InRow (w : World) (p : Option Addr) (q : IntKind) (f : Nat → Nat) (n : Nat) : Prop := ∀ j, j < n → ∃ x, p = some x ∧ w.cell? (x.add j) = some (.int q (f j))
theorem InRow.old {w w' : World} {p : Option Addr} {q : IntKind} {f : Nat → Nat} {n : Nat} (h : InRow w p q f n) (hb : Below w.heap.size w w') : InRow w' p q f n := fun j hj => by
  obtain ⟨x, h1, h2⟩ := h j hj
  exact ⟨x, h1, (hb.cell (p := x.add j) (World.block_lt_of_cell? w _ h2)).trans h2⟩
/-- How many objects a constant is. -/
def objN (k m : Nat) : Nat := if k % 6 = 0 then 1 else if k % 6 = 4 then 2 + m else 1 + m
/-- The constants that are laid, and what CountObjects says of each. -/
def El (r : Option Nat) (w : World) (ks ms : Nat → Nat) (vals : List Value) : Prop := ∀ j (hj : j < vals.length), ∀ W, w.grownBy W r → Says vals[j] (objN (ks j) (ms j)) W
/-- The state of the outer loop. -/
structure St (W0 : World) (ks ms : Nat → Nat) (i : Nat) (vo : Value) (w : World) (vals : List Value) : Prop where
  len : vals.length = i
  own : w.ownsRow W0.heap.size 53 1 vo i vals
  el : El vo.ownBlock w ks ms vals
  low : Below W0.heap.size W0 w
theorem chain {a b c d : World} {r r' : Option Nat} (h1 : a.grownBy b none) (h2 : b.grownBy c r) (h3 : c.grownBy d r') (hr : r' = r ∨ r' = some b.heap.size) : a.grownBy d r :=
  ((h1.but r).andThen h2 (fun _ hj => .inr hj)).andThen h3 (fun j hj => by
    rcases hr with e | e
    · exact .inr (e ▸ hj)
    · rw [e] at hj; cases hj; exact .inl h1.size)
section
variable {P : Program} {ops : Array Oper} {rest : List Oper} {o : Oper} {a : Act} {Q : Exit → Act → World → Prop}
theorem wp_out (hgd : o.guard = none) (s x : Operand) (ho : o.op = .call { callee := .builtin .append, args := #[s, x], argTypes := #[29, 29] }) (iO : TypeInfo) (ht : P.underlying 29 = some (.slice 53)) (hi : P.info? 53 = some iO ∧ iO.zero = some .nilIface ∧ iO.size = 1 ∧ iO.bytes = 16)
    {W0 wr wa : World} {ks ms : Nat → Nat} {i : Nat} {vo : Value} {vals : List Value} (S : St W0 ks ms i vo wr vals) (hg : wr.grownBy wa none) (T : TypeId) (p : Value) (hX : ∀ W, wa.grownBy W vo.ownBlock → Says (.iface T p) (objN (ks i) (ms i)) W) (hn : i ≤ 65536)
    (hsv : a.eval s = vo) (N : Nat) (hx : a.eval x = .slice (some ⟨N, 0, none⟩) 1 1) (hN : wa.heap.size = N)
    (h : ∀ v' w', St W0 ks ms (i + 1) v' w' (vals ++ [.iface T p]) → wpList P ops Q rest (a.put o.dst v') w') : wpList P ops Q (o :: rest) a (wa.alloc (.cells #[.iface T p] 53)) := by
  subst hN
  have hbase : W0.heap.size ≤ wr.heap.size := S.low.size
  have own1 : (wa.alloc (.cells #[.iface T p] 53)).ownsRow W0.heap.size 53 1 vo i vals := (S.own.kept hg (by cases hv : vo.ownBlock <;> simp)).alloc _
  have hsz : (wa.alloc (.cells #[.iface T p] 53)).heap.size = wa.heap.size + 1 := by simp
  refine wpList_append_own_at (wa.alloc (.cells #[.iface T p] 53)) hgd s x 29 ho W0.heap.size 53 iO .nilIface 1 16 ht hi.1 hi.2.1 hi.2.2.1 hi.2.2.2 rfl (by decide) vo i vals hsv own1 ⟨wa.heap.size, 0, none⟩ 1 1 [.iface T p] hx rfl (cell_one_new _ _ _) (by simp [Value.oneCell']) (by unfold maxLen; omega) (by omega) (by rw [hsz]; have := hg.size; omega) ?_
  intro v' w' hown' hgrow _ hloc
  have g1 : wr.grownBy (wa.alloc (.cells #[.iface T p] 53)) none := hg.andThen (World.grownBy_alloc wa _ none) (fun j hj => by cases hj)
  refine h v' w' ⟨by simp [S.len], hown', fun j hj W hW => ?_, ?_⟩
  · by_cases hlt : j < vals.length
    · rw [List.getElem_append_left hlt]
      exact S.el j hlt W (chain g1 hgrow hW hloc)
    · have hje : j = vals.length := by simp at hj; omega
      subst hje
      rw [List.getElem_append_right (Nat.le_refl _)]
      simp only [Nat.sub_self, List.getElem_cons_zero]
      rw [S.len]
      exact hX W (chain (World.grownBy_alloc wa _ none) hgrow hW hloc)
  · refine (S.low.grown g1 hbase (fun j hj => by cases hj)).grown hgrow (by rw [hsz]; have := hg.size; omega) (fun j hj => (S.own.lt j hj).1)
/-- An inner row of values that hold nothing. -/
def Ar (wr : World) (va : Value) (j : Nat) (w : World) : Prop := ∃ xs, xs.length = j ∧ (∀ x ∈ xs, ∃ t p, LeafT t ∧ x = Value.iface t p) ∧ w.ownsRow wr.heap.size 53 1 va j xs ∧ wr.grownBy w none
theorem wp_leaf (hgd : o.guard = none) (s x : Operand) (ho : o.op = .call { callee := .builtin .append, args := #[s, x], argTypes := #[29, 29] }) (iO : TypeInfo) (ht : P.underlying 29 = some (.slice 53)) (hi : P.info? 53 = some iO ∧ iO.zero = some .nilIface ∧ iO.size = 1 ∧ iO.bytes = 16)
    {wr wi wa : World} {j : Nat} {va : Value} (S : Ar wr va j wi) (hg : wi.grownBy wa none) (T : TypeId) (p : Value) (hT : LeafT T) (hn : j ≤ 65536)
    (hsv : a.eval s = va) (N : Nat) (hx : a.eval x = .slice (some ⟨N, 0, none⟩) 1 1) (hN : wa.heap.size = N)
    (h : ∀ v' w', Ar wr v' (j + 1) w' → wpList P ops Q rest (a.put o.dst v') w') : wpList P ops Q (o :: rest) a (wa.alloc (.cells #[.iface T p] 53)) := by
  subst hN
  obtain ⟨xs, s1, s2, s3, s4⟩ := S
  have own1 : (wa.alloc (.cells #[.iface T p] 53)).ownsRow wr.heap.size 53 1 va j xs := (s3.kept hg (by cases hv : va.ownBlock <;> simp)).alloc _
  have hsz : (wa.alloc (.cells #[.iface T p] 53)).heap.size = wa.heap.size + 1 := by simp
  refine wpList_append_own_at (wa.alloc (.cells #[.iface T p] 53)) hgd s x 29 ho wr.heap.size 53 iO .nilIface 1 16 ht hi.1 hi.2.1 hi.2.2.1 hi.2.2.2 rfl (by decide) va j xs hsv own1 ⟨wa.heap.size, 0, none⟩ 1 1 [.iface T p] hx rfl (cell_one_new _ _ _) (by simp [Value.oneCell']) (by unfold maxLen; omega) (by omega) (by rw [hsz]; have := hg.size; have := s4.size; omega) ?_
  intro v' w' hown' hgrow _ _
  have g1 : wr.grownBy (wa.alloc (.cells #[.iface T p] 53)) none := (s4.andThen hg (fun j hj => by cases hj)).andThen (World.grownBy_alloc wa _ none) (fun j hj => by cases hj)
  refine h v' w' ⟨xs ++ [.iface T p], by simp [s1], fun y hy => ?_, hown', g1.andThen hgrow (fun k hk => .inl (s3.lt k hk).1)⟩
  rcases List.mem_append.1 hy with hy | hy
  · exact s2 y hy
  · simp only [List.mem_singleton] at hy
    exact ⟨T, p, hT, hy⟩
end
theorem Ar.leaves {wr w : World} {va : Value} {j : Nat} (h : Ar wr va j w) : ∃ q cap, va = .slice q j cap ∧ Leaves w q j ∧ ∀ W r, w.grownBy W r → (∀ k, r = some k → k < wr.heap.size) → Leaves W q j := by
  obtain ⟨xs, s1, s2, s3, s4⟩ := h
  have hl : ∀ W q cap, va = .slice q j cap → W.ownsRow wr.heap.size 53 1 va j xs → Leaves W q j := by
    intro W q cap hva hw i hi
    obtain ⟨t, p, ht, hx⟩ := s2 xs[i] (List.getElem_mem _)
    rcases hw.2 with ⟨e1, e2⟩ | ⟨g, c, cur, e1, _⟩
    · omega
    · rw [hva] at e1
      cases e1
      have hc := hw.cells (g := g) (by rw [hva]; rfl) i (.iface t p) (by rw [List.getElem?_eq_getElem (by omega), hx])
      refine ⟨g, t, p, rfl, ht, ?_⟩
      rw [show (⟨g, i, none⟩ : Addr) = (⟨g, 0, none⟩ : Addr).add i by
        by_cases h : i = 0
        · subst h; rfl
        · simp [Addr.add, h]]
      exact hc
  have hform : ∃ q cap, va = .slice q j cap := by
    rcases s3.2 with ⟨e1, e2⟩ | ⟨g, c, cur, e1, _⟩
    · exact ⟨_, _, by rw [e1, e2]⟩
    · exact ⟨_, _, e1⟩
  obtain ⟨q, cap, hva⟩ := hform
  refine ⟨q, cap, hva, hl w q cap hva s3, fun W r hW hr => hl W q cap hva (s3.kept hW ?_)⟩
  cases hv : va.ownBlock with
  | none => exact .inl rfl
  | some k =>
    refine .inr (fun e => ?_)
    have h1 := (s3.lt k hv).1
    have h2 := hr k e.symm
    omega
/-- An inner map: j keys, each the letter and a numeral. -/
def keyB (c : UInt8) (t : Nat) : ByteArray := ⟨#[c]⟩ ++ ⟨(decDigits t).toArray⟩
theorem keyB_list (c : UInt8) (t : Nat) : (keyB c t).data.toList = c :: decDigits t := by
  unfold keyB
  rw [ByteArray.data_append]
  simp
theorem nDigits_le {t : Nat} (h : t < 100000) : nDigits t ≤ 5 := by
  by_cases a : t < 10
  · rw [nDigits_small a]; omega
  rw [nDigits_big a]
  by_cases b : t / 10 < 10
  · rw [nDigits_small b]; omega
  rw [nDigits_big b]
  by_cases c : t / 10 / 10 < 10
  · rw [nDigits_small c]; omega
  rw [nDigits_big c]
  by_cases d : t / 10 / 10 / 10 < 10
  · rw [nDigits_small d]; omega
  rw [nDigits_big d, nDigits_small (by omega)]; omega
theorem key_lit (c : UInt8) {t : Nat} (h : t ≤ 65536) : keyOf Tryz.prog 9 (.string (keyB c t)) = some (.string (c :: decDigits t)) := by
  rw [← keyB_list]
  refine Go.WideMaps.keyOf_string_mk Tryz.underlying9 ?_
  have h1 : (keyB c t).size = (keyB c t).data.toList.length := by rw [Array.length_toList]; rfl
  rw [h1, keyB_list, List.length_cons, decDigits_length]
  have := nDigits_le (t := t) (by omega)
  unfold maxLen
  omega
def Mp (wr : World) (c : UInt8) (mb j : Nat) (w : World) : Prop := ∃ D, w.ownsMap Tryz.prog 9 leafR mb j D ∧ Maps.size D = j ∧ (∀ k, Maps.has D k = true → ∃ t, t < j ∧ k = .string (c :: decDigits t)) ∧ wr.grownBy w none ∧ wr.heap.size ≤ mb
theorem Mp.put {wr wi wa : World} {c : UInt8} {mb j : Nat} {D' : DataW Unit} (D : DataW Unit) (h1 : wi.ownsMap Tryz.prog 9 leafR mb j D) (h2 : Maps.size D = j) (h3 : ∀ k, Maps.has D k = true → ∃ t, t < j ∧ k = .string (c :: decDigits t)) (h4 : wr.grownBy wi none) (h5 : wr.heap.size ≤ mb)
    (hD : D' = D.put (.string (c :: decDigits j)) .nil) (hw : wa.ownsMap Tryz.prog 9 leafR mb (j + 1) D') (hg : wi.grownBy wa (some mb)) : Mp wr c mb (j + 1) wa := by
  have hno : Maps.has D (.string (c :: decDigits j)) = false := by
    cases hh : Maps.has D (.string (c :: decDigits j))
    · rfl
    · obtain ⟨t, ht, he⟩ := h3 _ hh
      injection he with he
      have := decDigits_inj (List.cons.inj he).2
      omega
  subst hD
  refine ⟨_, hw, ?_, fun k hk => ?_, h4.andThen hg (fun i hi => by cases hi; exact .inl h5), h5⟩
  · rw [Maps.size_put (h1.tidy law), hno, h2]; simp
  · by_cases he : k = .string (c :: decDigits j)
    · exact ⟨j, by omega, he⟩
    · rw [Maps.has_put_other he] at hk
      obtain ⟨t, ht, hte⟩ := h3 k hk
      exact ⟨t, by omega, hte⟩
theorem grown_of_below {a b : World} (h : Below a.heap.size a b) : a.grownBy b none := ⟨h.os, h.tape, h.output, h.size, fun k hk _ => h.block k hk⟩
/-- A new object stays what it is. -/
theorem box_at {wo wr W : World} {r : Option Nat} {v : Value} {T : TypeId} (hg : wo.heap.size ≤ wr.heap.size) (hr : ∀ k, r = some k → k < wo.heap.size) (hW : (wr.alloc (.cells #[v] T)).grownBy W r) : W.cell? ⟨wr.heap.size, 0, none⟩ = some v ∧ wr.grownBy W r := by
  refine ⟨?_, (World.grownBy_alloc wr _ r).andThen hW (fun j hj => .inr hj)⟩
  have h1 := hW.block wr.heap.size (by simp) (fun e => by have := hr _ e.symm; omega)
  rw [World.cell?_of_block (a := ⟨wr.heap.size, 0, none⟩) h1]
  exact cell_one_new wr v T 0 _ rfl
theorem St.old {W0 w : World} {ks ms : Nat → Nat} {i : Nat} {vo : Value} {vals : List Value} (S : St W0 ks ms i vo w vals) : ∀ k, vo.ownBlock = some k → k < w.heap.size := fun k hk => (S.own.lt k hk).2
theorem Ar.grown {wr w : World} {va : Value} {j : Nat} (h : Ar wr va j w) : wr.grownBy w none := by
  obtain ⟨_, _, _, _, h4⟩ := h
  exact h4
theorem text_size {t : Nat} (h : t ≤ 65536) : (⟨(decDigits t).toArray⟩ : ByteArray).size ≤ 5 := by
  have h1 : (⟨(decDigits t).toArray⟩ : ByteArray).size = (decDigits t).length := by show (decDigits t).toArray.size = _; simp
  rw [h1, decDigits_length]
  exact nDigits_le (by omega)
end Go.Proofs.YtehfbmkaojlbeaaGreat.Co
