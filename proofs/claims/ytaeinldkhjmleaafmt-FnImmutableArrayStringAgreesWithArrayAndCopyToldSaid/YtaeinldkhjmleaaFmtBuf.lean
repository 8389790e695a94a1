/- A buffer of bytes that lies behind a pointer: what it holds, and what a call that only writes it leaves as it was. Plain definitions and laws; no program. -/
import Derived.WalkKit
import Derived.Lib.AppendStr
import Derived.Lib.BufferRead
import Derived.Below
import Derived.OwnWalk
import Derived.Laws.BitsAllLaws
import Derived.Laws.CopyOwn
import Derived.Laws.AppendOwnNone
import Derived.Laws.IdiomCopy
import Derived.WalkLawsBesides
namespace Go.Fmt
open Go.RowKit Go.Lib

/-- The cells of a list of bytes. -/
def bcells (bs : List UInt8) : List Value := bs.map fun b => Value.int .u8 b.toNat

theorem bcells_length (bs : List UInt8) : (bcells bs).length = bs.length := by simp [bcells]
theorem bcells_append (a b : List UInt8) : bcells (a ++ b) = bcells a ++ bcells b := by simp [bcells]
theorem strCells_eq (s : ByteArray) : strCells s = bcells s.data.toList := rfl

theorem addr_add (b o j : Nat) : (⟨b, o, none⟩ : Addr).add j = ⟨b, o + j, none⟩ := by
  unfold Addr.add
  split
  · subst_vars; rfl
  · rfl
theorem addr_add0 (b j : Nat) : (⟨b, 0, none⟩ : Addr).add j = ⟨b, j, none⟩ := by rw [addr_add, Nat.zero_add]

/-- The cell at 'a' holds a slice of bytes (element type 'e') whose array is the buffer's own, from block 'base' on, and whose elements are 'bs'. -/
def Buf (e : TypeId) (w : World) (base : Nat) (a : Addr) (bs : List UInt8) : Prop :=
  ∃ p cap, w.cell? a = some (.slice p bs.length cap) ∧ w.frozen? a = false ∧ w.ownsRow base e 1 (.slice p bs.length cap) bs.length (bcells bs) ∧ bs.length ≤ cap ∧ cap ≤ maxLen ∧ a.block < base ∧ base ≤ w.heap.size

theorem Buf.lt {e : TypeId} {w : World} {base : Nat} {a : Addr} {bs : List UInt8} (h : Buf e w base a bs) : a.block < base := by
  obtain ⟨_, _, _, _, _, _, _, h6, _⟩ := h
  exact h6

/-- Below 'base' only the cell 'a' may have turned. -/
structure Kept (base : Nat) (a : Addr) (w w' : World) : Prop where
  os : w'.os = w.os
  tape : w'.tape = w.tape
  output : w'.output = w.output
  size : w.heap.size ≤ w'.heap.size
  block : ∀ k, k < base → k ≠ a.block → w'.heap[k]? = w.heap[k]?
  cell : ∀ c, c.block = a.block → c ≠ a → w'.cell? c = w.cell? c
  frozen : ∀ c, c.block = a.block → w'.frozen? c = w.frozen? c

theorem Kept.refl (base : Nat) (a : Addr) (w : World) : Kept base a w w := ⟨rfl, rfl, rfl, Nat.le_refl _, fun _ _ _ => rfl, fun _ _ _ => rfl, fun _ _ => rfl⟩
theorem Kept.trans {base : Nat} {a : Addr} {x y z : World} (h : Kept base a x y) (k : Kept base a y z) : Kept base a x z :=
  ⟨k.os.trans h.os, k.tape.trans h.tape, k.output.trans h.output, Nat.le_trans h.size k.size, fun i h1 h2 => (k.block i h1 h2).trans (h.block i h1 h2), fun c h1 h2 => (k.cell c h1 h2).trans (h.cell c h1 h2), fun c h1 => (k.frozen c h1).trans (h.frozen c h1)⟩
theorem Kept.drewN {base : Nat} {a : Addr} {x y : World} (h : Kept base a x y) (n : Nat) : Kept base a x (y.drewN n) := ⟨h.os, h.tape, h.output, h.size, h.block, h.cell, h.frozen⟩
theorem Kept.below {base B : Nat} {a : Addr} {x y : World} (h : Kept base a x y) (h1 : B ≤ base) (h2 : B ≤ a.block) : Below B x y :=
  ⟨h.os, h.tape, h.output, h.size, fun k hk => h.block k (by omega) (by omega)⟩
theorem Kept.cellAt {base : Nat} {a c : Addr} {x y : World} (h : Kept base a x y) (hb : c.block < base) (hne : c ≠ a) : y.cell? c = x.cell? c := by
  by_cases e : c.block = a.block
  · exact h.cell c e hne
  · exact World.cell?_of_block (h.block c.block hb e)
theorem Kept.frozenAt {base : Nat} {a c : Addr} {x y : World} (h : Kept base a x y) (hb : c.block < base) : y.frozen? c = x.frozen? c := by
  by_cases e : c.block = a.block
  · exact h.frozen c e
  · exact World.frozen?_of_block (h.block c.block hb e)

theorem ownsRow_form {w : World} {base : Nat} {e : TypeId} {v : Value} {n : Nat} {xs : List Value} (h : w.ownsRow base e 1 v n xs) : ∃ p cap, v = .slice p n cap ∧ n ≤ cap ∧ cap ≤ maxLen := by
  obtain ⟨_, ⟨rfl, rfl⟩ | ⟨g, cap, cur, rfl, _, _, h1, h2, _⟩⟩ := h
  · exact ⟨_, _, rfl, Nat.le_refl _, by simp⟩
  · exact ⟨_, _, rfl, h1, h2⟩

/-- 'string(b)' of a slice of the buffer's own. -/
theorem conv_own {P : Program} {w : World} {base n cap : Nat} {p : Option Addr} {src e dst : TypeId} (bs : List UInt8) (hn : n = bs.length) (h : w.ownsRow base e 1 (.slice p n cap) bs.length (bcells bs))
    (hs : P.underlying src = some (.slice e)) (he : P.underlying e = some (.int .u8)) (hd : P.underlying dst = some .string) : (convert src dst (.slice p n cap)).run P w = .ok (.string ⟨bs.toArray⟩) w := by
  subst hn
  obtain ⟨h0, ⟨h1, h1'⟩ | ⟨g', cap', cur, h1, h2, h3, h4, h5, h6, h7⟩⟩ := h
  · obtain rfl : bs = [] := List.length_eq_zero_iff.1 h1'
    cases h1
    exact run_convert_nil_bytes w src dst e _ hs he hd
  · cases h1
    exact run_convert_bytes_back w src dst e ⟨g', 0, none⟩ cap bs hs he hd (bytes_of_row h3 (by rw [Nat.mul_one] at h7; exact h7))

theorem ownsRow_setCell {w : World} {base : Nat} {e : TypeId} {v u : Value} {n : Nat} {xs : List Value} {a : Addr} (h : w.ownsRow base e 1 v n xs) (ha : a.block < base) : (w.setCell a u).ownsRow base e 1 v n xs := by
  obtain ⟨h0, h1 | ⟨g, cap, cur, h1, h2, h3, h4⟩⟩ := h
  · exact ⟨h0, .inl h1⟩
  · exact ⟨h0, .inr ⟨g, cap, cur, h1, h2, by rw [heap_setCell_other _ _ _ _ (by omega)]; exact h3, h4⟩⟩

theorem ownsRow_below {w w' : World} {base : Nat} {e : TypeId} {v : Value} {n : Nat} {xs : List Value} (h : w.ownsRow base e 1 v n xs) (hb : ∀ k, v.ownBlock = some k → w'.heap[k]? = w.heap[k]?) : w'.ownsRow base e 1 v n xs := by
  obtain ⟨h0, h1 | ⟨g, cap, cur, rfl, h2, h3, h4⟩⟩ := h
  · exact ⟨h0, .inl h1⟩
  · exact ⟨h0, .inr ⟨g, cap, cur, rfl, h2, by rw [hb g rfl]; exact h3, h4⟩⟩

/-- Where everything that was there stands, the buffer holds what it held. -/
theorem Buf.grow {e : TypeId} {w w' : World} {base : Nat} {a : Addr} {bs : List UInt8} (h : Buf e w base a bs) (hb : Below w.heap.size w w') : Buf e w' base a bs := by
  obtain ⟨p, cap, h1, h2, h3, h4, h5, h6, h7⟩ := h
  exact ⟨p, cap, (hb.cell (by omega)).trans h1, (hb.frozen (by omega)).trans h2, ownsRow_below h3 (fun k hk => hb.block k (h3.lt k hk).2), h4, h5, h6, Nat.le_trans h7 hb.size⟩
theorem Kept.of_below {base : Nat} {a : Addr} {w w' : World} (hb : Below w.heap.size w w') (h : base ≤ w.heap.size) (ha : a.block < base) : Kept base a w w' :=
  ⟨hb.os, hb.tape, hb.output, hb.size, fun k hk _ => hb.block k (by omega), fun c hc _ => hb.cell (by omega), fun c hc => hb.frozen (by omega)⟩
theorem Buf.base_le {e : TypeId} {w : World} {base : Nat} {a : Addr} {bs : List UInt8} (h : Buf e w base a bs) : base ≤ w.heap.size := by
  obtain ⟨_, _, _, _, _, _, _, _, h7⟩ := h
  exact h7
theorem Buf.of_same {e : TypeId} {w w' : World} {base F : Nat} {a : Addr} {bs : List UInt8} (h : Buf e w base a bs) (hF : F < base) (hne : F ≠ a.block) (hs : w'.heap.size = w.heap.size) (hk : ∀ k, k < w.heap.size → k ≠ F → w'.heap[k]? = w.heap[k]?) : Buf e w' base a bs := by
  obtain ⟨p, cap, h1, h2, h3, h4, h5, h6, h7⟩ := h
  have ha : w'.heap[a.block]? = w.heap[a.block]? := hk a.block (by omega) (Ne.symm hne)
  exact ⟨p, cap, (World.cell?_of_block ha).trans h1, (World.frozen?_of_block ha).trans h2, ownsRow_below h3 (fun k hkk => hk k (h3.lt k hkk).2 (by have := (h3.lt k hkk).1; omega)), h4, h5, h6, by rw [hs]; exact h7⟩
theorem setCells_size (b : Nat) : ∀ (vs : List Value) (o : Nat) (w : World), (w.setCells b o vs).heap.size = w.heap.size
  | [], _, _ => rfl
  | v :: r, o, w => by rw [World.setCells, setCells_size b r]; simp
theorem setCells_block (b : Nat) {k : Nat} (hk : k ≠ b) : ∀ (vs : List Value) (o : Nat) (w : World), (w.setCells b o vs).heap[k]? = w.heap[k]?
  | [], _, _ => rfl
  | v :: r, o, w => by rw [World.setCells, setCells_block b hk r, heap_setCell_other _ _ _ _ hk]
theorem setCells_some (b : Nat) : ∀ (vs : List Value) (o : Nat) (w : World) (x : Addr), (∃ v, w.cell? x = some v) → ∃ v, (w.setCells b o vs).cell? x = some v
  | [], _, _, _, h => h
  | v :: r, o, w, x, ⟨u, hu⟩ => by
    refine setCells_some b r (o + 1) (w.setCell ⟨b, o, none⟩ v) x ?_
    by_cases e : (⟨b, o, none⟩ : Addr) = x
    · exact ⟨v, by rw [e]; exact World.cell?_setCell_same _ _ _ hu⟩
    · exact ⟨u, (World.cell?_setCell_other _ _ _ _ e).trans hu⟩
theorem setCells_below {B b : Nat} {w0 : World} (hb : B ≤ b) : ∀ (vs : List Value) (o : Nat) {w : World}, Below B w0 w → Below B w0 (w.setCells b o vs)
  | [], _, _, h => h
  | v :: r, o, _, h => setCells_below hb r (o + 1) (h.setCell hb v)

/-- A buffer that is nil is empty over every 'base'. -/
theorem Buf.of_nil {e : TypeId} {w : World} {base : Nat} {a : Addr} (h1 : w.cell? a = some (.slice none 0 0)) (h2 : w.frozen? a = false) (h3 : a.block < base) (h4 : base ≤ w.heap.size) : Buf e w base a [] :=
  ⟨none, 0, h1, h2, World.ownsRow_nil _ _ _ _, Nat.le_refl _, by simp, h3, h4⟩

/-- A slice of the buffer's own that is stored at 'a', where below 'base' nothing else has turned. -/
theorem buf_set {e : TypeId} {base : Nat} {a : Addr} {bs cs : List UInt8} {v' : Value} {w w' : World} (hb : Buf e w base a bs) (hbel : Below base w w') (hown : w'.ownsRow base e 1 v' cs.length (bcells cs)) :
    Buf e (w'.setCell a v') base a cs ∧ Kept base a w (w'.setCell a v') := by
  obtain ⟨p, cap, h1, h2, h3, h4, h5, h6, h7⟩ := hb
  obtain ⟨q, cap', rfl, h8, h9⟩ := ownsRow_form hown
  have hca : w'.cell? a = w.cell? a := hbel.cell h6
  have hfa : w'.frozen? a = w.frozen? a := hbel.frozen h6
  have hsz : (w'.setCell a (.slice q cs.length cap')).heap.size = w'.heap.size := by simp
  refine ⟨⟨q, cap', World.cell?_setCell_same _ _ _ (hca.trans h1), by simpa using hfa.trans h2, ownsRow_setCell hown h6, h8, h9, h6, by rw [hsz]; exact Nat.le_trans h7 hbel.size⟩, ?_⟩
  refine ⟨hbel.os, hbel.tape, hbel.output, by rw [hsz]; exact hbel.size, fun k h1 h2 => ?_, fun c h1 h2 => ?_, fun c h1 => ?_⟩
  · rw [heap_setCell_other _ _ _ _ h2]; exact hbel.block k h1
  · rw [World.cell?_setCell_other _ _ _ _ (Ne.symm h2)]; exact hbel.cell (by omega)
  · rw [World.frozen?_setCell]; exact hbel.frozen (by omega)

/-- What append leaves, then stored at 'a'. -/
theorem buf_store {e : TypeId} {base : Nat} {a : Addr} {bs cs : List UInt8} {v' : Value} {w w0 w' : World} (hb : Buf e w base a bs) (h0 : Kept base a w w0) (hs0 : base ≤ w0.heap.size) (hc0 : w0.cell? a = w.cell? a) (hown : w'.ownsRow base e 1 v' cs.length (bcells cs))
    {row : Option Nat} (hg : w0.grownBy w' row) (hrow : ∀ k, row = some k → base ≤ k) :
    Buf e (w'.setCell a v') base a cs ∧ Kept base a w (w'.setCell a v') := by
  obtain ⟨p, cap, h1, h2, h3, h4, h5, h6, h7⟩ := hb
  obtain ⟨q, cap', rfl, h8, h9⟩ := ownsRow_form hown
  have hk : ∀ k, k < base → w'.heap[k]? = w0.heap[k]? := fun k hk => hg.block k (by omega) (fun e => by have := hrow k e.symm; omega)
  have hca : w'.cell? a = w.cell? a := (World.cell?_of_block (hk a.block h6)).trans hc0
  have hfa : w'.frozen? a = w.frozen? a := (World.frozen?_of_block (hk a.block h6)).trans (h0.frozen a rfl)
  have hsz : (w'.setCell a (.slice q cs.length cap')).heap.size = w'.heap.size := by simp
  refine ⟨⟨q, cap', World.cell?_setCell_same _ _ _ (hca.trans h1), by simpa using hfa.trans h2, ownsRow_setCell hown h6, h8, h9, h6, by rw [hsz]; exact Nat.le_trans hs0 hg.size⟩, ?_⟩
  refine ⟨hg.os.trans h0.os, hg.tape.trans h0.tape, hg.output.trans h0.output, by rw [hsz]; exact Nat.le_trans h0.size hg.size, fun k h1 h2 => ?_, fun c h1 h2 => ?_, fun c h1 => ?_⟩
  · rw [heap_setCell_other _ _ _ _ h2, hk k h1]; exact h0.block k h1 h2
  · rw [World.cell?_setCell_other _ _ _ _ (Ne.symm h2), World.cell?_of_block (hk c.block (by omega))]; exact h0.cell c h1 h2
  · rw [World.frozen?_setCell, World.frozen?_of_block (hk c.block (by omega))]; exact h0.frozen c h1

section
variable {P : Program}

/-- 'append(b, s...)' at a string, the slice's array being the buffer's own: the new slice is written out. -/
theorem append_str {ops : Array Oper} {rest : List Oper} {o : Oper} {a : Act} {Q : Exit → Act → World → Prop} {w : World} (hgd : o.guard = none) (sl x : Operand) (t u : TypeId)
    (ho : o.op = .call { callee := .builtin .append, args := #[sl, x], argTypes := #[t, u] })
    (base : Nat) (e : TypeId) (ht : P.underlying t = some (.slice e)) (hu : P.underlying u = some .string) (hinfo : (P.info? e).map (fun i => (i.zero, i.size, i.bytes)) = some (some (.int .u8 0), 1, 1))
    (p : Option Addr) (bs : List UInt8) (cap : Nat) (hs : a.eval sl = .slice p bs.length cap) (hown : w.ownsRow base e 1 (.slice p bs.length cap) bs.length (bcells bs)) (s : ByteArray) (hx : a.eval x = .string s)
    (hlen : bs.length + s.size ≤ 140737488355328) (hbase : base ≤ w.heap.size)
    (h : ∀ p' cap' w', w'.ownsRow base e 1 (.slice p' (bs.length + s.size) cap') (bs ++ s.data.toList).length (bcells (bs ++ s.data.toList)) → bs.length + s.size ≤ cap' → cap' ≤ maxLen → w.grownBy w' (Value.slice p bs.length cap).ownBlock → wpList P ops Q rest (a.put o.dst (.slice p' (bs.length + s.size) cap')) w') :
    wpList P ops Q (o :: rest) a w := by
  obtain ⟨i, hi, h1, h2, h3⟩ := info_parts hinfo
  refine wpList_append_own_string w hgd sl x t u ho base e i ht hu hi h1 h2 h3 _ bs.length (bcells bs) hs hown s hx (by unfold maxLen; omega) hlen hbase ?_
  intro v' w' hown' hg _
  obtain ⟨p', cap', rfl, h4, h5⟩ := ownsRow_form hown'
  have e1 : (bs ++ s.data.toList).length = bs.length + s.size := by rw [List.length_append, Array.length_toList]; rfl
  exact h p' cap' w' (by rw [e1, bcells_append]; exact hown') h4 h5 hg

/-- 'append(b, c..)' at a slice that lies elsewhere. -/
theorem append_row {ops : Array Oper} {rest : List Oper} {o : Oper} {a : Act} {Q : Exit → Act → World → Prop} {w : World} (hgd : o.guard = none) (sl x : Operand) (t : TypeId)
    (ho : o.op = .call { callee := .builtin .append, args := #[sl, x], argTypes := #[t, t] })
    (base : Nat) (e : TypeId) (ht : P.underlying t = some (.slice e)) (hinfo : (P.info? e).map (fun i => (i.zero, i.size, i.bytes)) = some (some (.int .u8 0), 1, 1))
    (p : Option Addr) (bs : List UInt8) (cap : Nat) (hs : a.eval sl = .slice p bs.length cap) (hown : w.ownsRow base e 1 (.slice p bs.length cap) bs.length (bcells bs))
    (ad : Addr) (c : Nat) (cs : List UInt8) (hx : a.eval x = .slice (some ad) cs.length c) (hnews : ∀ j u, (bcells cs)[j]? = some u → w.cell? (ad.add j) = some u)
    (hlen : bs.length + cs.length ≤ 140737488355328) (hbase : base ≤ w.heap.size)
    (h : ∀ p' cap' w', w'.ownsRow base e 1 (.slice p' (bs.length + cs.length) cap') (bs ++ cs).length (bcells (bs ++ cs)) → bs.length + cs.length ≤ cap' → cap' ≤ maxLen → w.grownBy w' (Value.slice p bs.length cap).ownBlock → wpList P ops Q rest (a.put o.dst (.slice p' (bs.length + cs.length) cap')) w') :
    wpList P ops Q (o :: rest) a w := by
  obtain ⟨i, hi, h1, h2, h3⟩ := info_parts hinfo
  refine wpList_append_own w hgd sl x t ho base e i (.int .u8 0) 1 1 ht hi h1 h2 h3 rfl (by decide) _ bs.length (bcells bs) hs hown ad cs.length c (bcells cs) hx (by simp [bcells_length]) hnews ?_ (by unfold maxLen; omega) (by omega) hbase ?_
  · intro u hu
    obtain ⟨b, _, rfl⟩ := List.mem_map.1 hu
    rfl
  intro v' w' hown' hg _
  obtain ⟨p', cap', rfl, h4, h5⟩ := ownsRow_form hown'
  have e1 : (bs ++ cs).length = bs.length + cs.length := List.length_append
  exact h p' cap' w' (by rw [e1, bcells_append]; exact hown') h4 h5 hg

theorem append_types (w : World) (t u ty e e' : TypeId) (i : TypeInfo) (p : Option Addr) (n c : Nat) (x : Value) (ht : P.underlying t = some (.slice e)) (hu : P.underlying u = some (.slice e')) (hi : P.info? e = some i) :
    (Builtin.append_ #[t, u] ty #[.slice p n c, x]).run P w = (Builtin.append_ #[t, t] ty #[.slice p n c, x]).run P w := by
  simp [Builtin.append_, run_underlying ht, run_underlying hu, sizeOf, typeInfo, hi]

/-- The same where the second operand's slice type is another one. -/
theorem append_row2 {ops : Array Oper} {rest : List Oper} {o : Oper} {a : Act} {Q : Exit → Act → World → Prop} {w : World} (hgd : o.guard = none) (sl x : Operand) (t u : TypeId)
    (ho : o.op = .call { callee := .builtin .append, args := #[sl, x], argTypes := #[t, u] })
    (base : Nat) (e : TypeId) (ht : P.underlying t = some (.slice e)) (hu : P.underlying u = some (.slice e)) (hinfo : (P.info? e).map (fun i => (i.zero, i.size, i.bytes)) = some (some (.int .u8 0), 1, 1))
    (p : Option Addr) (bs : List UInt8) (cap : Nat) (hs : a.eval sl = .slice p bs.length cap) (hown : w.ownsRow base e 1 (.slice p bs.length cap) bs.length (bcells bs))
    (ad : Addr) (c : Nat) (cs : List UInt8) (hx : a.eval x = .slice (some ad) cs.length c) (hnews : ∀ j u, (bcells cs)[j]? = some u → w.cell? (ad.add j) = some u)
    (hlen : bs.length + cs.length ≤ 140737488355328) (hbase : base ≤ w.heap.size)
    (h : ∀ p' cap' w', w'.ownsRow base e 1 (.slice p' (bs.length + cs.length) cap') (bs ++ cs).length (bcells (bs ++ cs)) → bs.length + cs.length ≤ cap' → cap' ≤ maxLen → w.grownBy w' (Value.slice p bs.length cap).ownBlock → wpList P ops Q rest (a.put o.dst (.slice p' (bs.length + cs.length) cap')) w') :
    wpList P ops Q (o :: rest) a w := by
  obtain ⟨i, hi, h1, h2, h3⟩ := info_parts hinfo
  have h1c : ∀ u ∈ bcells cs, u.oneCell' = true := by
    intro u hu
    obtain ⟨b, _, rfl⟩ := List.mem_map.1 hu
    rfl
  obtain ⟨v', w', hr, hown', hg, _⟩ := run_append_own (P := P) w base t o.type e i (.int .u8 0) 1 1 ht hi h1 h2 h3 rfl (by decide) _ bs.length (bcells bs) hown ad cs.length c (bcells cs) (by simp [bcells_length]) hnews h1c (by unfold maxLen; omega) (by omega) hbase
  rw [← append_types w t u o.type e e i _ _ _ _ ht hu hi] at hr
  obtain ⟨p', cap', rfl, h4, h5⟩ := ownsRow_form hown'
  have e1 : (bs ++ cs).length = bs.length + cs.length := List.length_append
  have hfin := h p' cap' w' (by rw [e1, bcells_append]; exact hown') h4 h5 hg
  refine wpList_plain hgd fun K hK => ?_
  unfold Oper.wp execOp
  simp only [ho, resolve, invoke, builtin, Sem.run_bind, Sem.run_pure, Result.andThen_ok, List.map_toArray, List.map_cons, List.map_nil, hs, hx, hr]
  exact hK _ _ hfin

/-- The same where the second operand is nil. -/
theorem append_none2 {ops : Array Oper} {rest : List Oper} {o : Oper} {a : Act} {Q : Exit → Act → World → Prop} {w : World} (hgd : o.guard = none) (sl x : Operand) (t u : TypeId)
    (ho : o.op = .call { callee := .builtin .append, args := #[sl, x], argTypes := #[t, u] })
    (base : Nat) (e : TypeId) (ht : P.underlying t = some (.slice e)) (hu : P.underlying u = some (.slice e)) (hinfo : (P.info? e).map (fun i => (i.zero, i.size, i.bytes)) = some (some (.int .u8 0), 1, 1))
    (p : Option Addr) (n cap : Nat) (xs : List Value) (hs : a.eval sl = .slice p n cap) (hown : w.ownsRow base e 1 (.slice p n cap) n xs) (hx : a.eval x = .slice none 0 0)
    (h : wpList P ops Q rest (a.put o.dst (.slice p n cap)) w) : wpList P ops Q (o :: rest) a w := by
  obtain ⟨i, hi, _, _, _⟩ := info_parts hinfo
  have hr := run_append_owned_none (P := P) (w := w) base t o.type e i 1 ht hi _ n xs hown
  rw [← append_types w t u o.type e e i _ _ _ _ ht hu hi] at hr
  refine wpList_plain hgd fun K hK => ?_
  unfold Oper.wp execOp
  simp only [ho, resolve, invoke, builtin, Sem.run_bind, Sem.run_pure, Result.andThen_ok, List.map_toArray, List.map_cons, List.map_nil, hs, hx, hr]
  exact hK _ _ h

/-- 'append(b, c, d ..)': the new bytes lie in the block that the statement has just laid for its variadic slice. -/
theorem append_new {ops : Array Oper} {rest : List Oper} {o : Oper} {a : Act} {Q : Exit → Act → World → Prop} {w0 : World} (hgd : o.guard = none) (sl x : Operand) (t : TypeId)
    (ho : o.op = .call { callee := .builtin .append, args := #[sl, x], argTypes := #[t, t] })
    (base : Nat) (e : TypeId) (ht : P.underlying t = some (.slice e)) (hinfo : (P.info? e).map (fun i => (i.zero, i.size, i.bytes)) = some (some (.int .u8 0), 1, 1))
    (p : Option Addr) (bs : List UInt8) (cap : Nat) (hs : a.eval sl = .slice p bs.length cap) (hown : w0.ownsRow base e 1 (.slice p bs.length cap) bs.length (bcells bs))
    (arr : Array Value) (cs : List UInt8) (harr : arr.toList = bcells cs) (c : Nat) (hx : a.eval x = .slice (some ⟨w0.heap.size, 0, none⟩) cs.length c)
    (hlen : bs.length + cs.length ≤ 140737488355328) (hbase : base ≤ w0.heap.size)
    (h : ∀ p' cap' w', w'.ownsRow base e 1 (.slice p' (bs.length + cs.length) cap') (bs ++ cs).length (bcells (bs ++ cs)) → bs.length + cs.length ≤ cap' → cap' ≤ maxLen → w0.grownBy w' (Value.slice p bs.length cap).ownBlock → wpList P ops Q rest (a.put o.dst (.slice p' (bs.length + cs.length) cap')) w') :
    wpList P ops Q (o :: rest) a (w0.alloc (.cells arr e)) := by
  have hsz : (w0.alloc (.cells arr e)).heap.size = w0.heap.size + 1 := by simp
  refine append_row hgd sl x t ho base e ht hinfo p bs cap hs (hown.alloc _) ⟨w0.heap.size, 0, none⟩ c cs hx ?_ hlen (by rw [hsz]; omega) ?_
  · intro j u hj
    have hh : (w0.alloc (.cells arr e)).heap[w0.heap.size]? = some (.cells arr e (0, 0)) := heap_alloc_new w0 _
    rw [← harr, Array.getElem?_toList] at hj
    rw [addr_add0]
    unfold World.cell?
    simp only [hh]
    simpa using hj
  · intro p' cap' w' h1 h2 h3 h4
    refine h p' cap' w' h1 h2 h3 ⟨h4.os, h4.tape, h4.output, Nat.le_trans (by rw [hsz]; omega) h4.size, fun k hk hr => ?_⟩
    rw [h4.block k (by rw [hsz]; omega) hr]
    exact Below.heap_alloc w0 _ k hk
end

theorem grown_drewN {w w' : World} {n : Nat} {r : Option Nat} (h : (w.drewN n).grownBy w' r) : w.grownBy w' r := ⟨h.os, h.tape, h.output, h.size, h.block⟩

/-- What holds of the cell 'a' behind an append. -/
theorem grown_cell {w w' : World} {base : Nat} {p : Option Addr} {n cap e : Nat} {xs : List Value} {a : Addr} {v : Value} (hown : w.ownsRow base e 1 (.slice p n cap) n xs) (hg : w.grownBy w' (Value.slice p n cap).ownBlock) (ha : a.block < base) (hbase : base ≤ w.heap.size)
    (hc : w.cell? a = some v) (hf : w.frozen? a = false) : w'.cell? a = some v ∧ w'.frozen? a = false := by
  have hk : w'.heap[a.block]? = w.heap[a.block]? := hg.block a.block (by omega) (fun e => by have := (hown.lt a.block e.symm).1; omega)
  exact ⟨(World.cell?_of_block hk).trans hc, (World.frozen?_of_block hk).trans hf⟩

/-- A shorter slice of an owned row. -/
theorem own_take {w : World} {base g m n cap : Nat} {e : TypeId} {xs : List Value} (h : w.ownsRow base e 1 (.slice (some ⟨g, 0, none⟩) m cap) m xs) (hn : n ≤ m) : w.ownsRow base e 1 (.slice (some ⟨g, 0, none⟩) n cap) n (xs.take n) := by
  obtain ⟨h0, ⟨h1, _⟩ | ⟨g', cap', cur, h1, h2, h3, h4, h5, h6, h7⟩⟩ := h
  · cases h1
  · cases h1
    refine ⟨by simp [h0]; omega, .inr ⟨g, cap, cur, rfl, h2, h3, by omega, h5, h6, ?_⟩⟩
    rw [← h7, List.take_take]
    congr 1
    omega
theorem own_set {w : World} {base g n cap : Nat} {e : TypeId} {xs : List Value} (v : Value) (h : w.ownsRow base e 1 (.slice (some ⟨g, 0, none⟩) n cap) n xs) (hn : n < cap) :
    (w.setCell ⟨g, n, none⟩ v).ownsRow base e 1 (.slice (some ⟨g, 0, none⟩) (n + 1) cap) (n + 1) (xs ++ [v]) := by
  obtain ⟨h0, ⟨h1, _⟩ | ⟨g', cap', cur, h1, h2, h3, h4, h5, h6, h7⟩⟩ := h
  · cases h1
  · cases h1
    refine ⟨by simp [h0], .inr ⟨g, cap, cur.setIfInBounds n v, rfl, h2, heap_setCell_same w g n cur e v h3, by omega, h5, by simpa using h6, ?_⟩⟩
    simp only [Nat.mul_one] at h6 h7 h0 ⊢
    have hlt : n < (cur.toList.set n v).length := by simp; omega
    rw [Array.toList_setIfInBounds, List.take_succ_eq_append_getElem hlt, List.take_set_of_le (Nat.le_refl n), h7]
    simp
theorem own_sets {base g cap : Nat} {e : TypeId} : ∀ (vs : List Value) {w : World} {n : Nat} {xs : List Value}, w.ownsRow base e 1 (.slice (some ⟨g, 0, none⟩) n cap) n xs → n + vs.length ≤ cap →
    (w.setCells g n vs).ownsRow base e 1 (.slice (some ⟨g, 0, none⟩) (n + vs.length) cap) (n + vs.length) (xs ++ vs)
  | [], _, _, _, h, _ => by simpa [World.setCells] using h
  | v :: r, w, n, xs, h, hn => by
    simp only [List.length_cons] at hn ⊢
    have := own_sets r (own_set v h (by omega)) (by omega)
    rw [List.append_assoc, List.singleton_append] at this
    rw [show n + (r.length + 1) = n + 1 + r.length by omega]
    exact this
theorem own_cell {w : World} {base g m cap : Nat} {e : TypeId} {xs : List Value} (h : w.ownsRow base e 1 (.slice (some ⟨g, 0, none⟩) m cap) m xs) {j : Nat} (hj : j < cap) : (∃ v, w.cell? ⟨g, j, none⟩ = some v) ∧ w.frozen? ⟨g, j, none⟩ = false := by
  obtain ⟨h0, ⟨h1, _⟩ | ⟨g', cap', cur, h1, h2, h3, h4, h5, h6, h7⟩⟩ := h
  · cases h1
  · cases h1
    simp only [Nat.mul_one] at h6
    exact ⟨⟨cur[j], by simp [World.cell?, h3, Array.getElem?_eq_getElem (show j < cur.size by omega)]⟩, by simp [World.frozen?, h3]⟩
/-- An owned row with room for an element is not nil. -/
theorem own_some {w : World} {base n cap : Nat} {p : Option Addr} {e : TypeId} {xs : List Value} (h : w.ownsRow base e 1 (.slice p n cap) n xs) (hc : 0 < cap) : ∃ g, p = some ⟨g, 0, none⟩ ∧ base ≤ g ∧ g < w.heap.size := by
  obtain ⟨h0, ⟨h1, _⟩ | ⟨g', cap', cur, h1, h2, h3, _⟩⟩ := h
  · cases h1; omega
  · cases h1; exact ⟨g', rfl, h2, (Array.getElem?_eq_some_iff.1 h3).1⟩
theorem grown_setCells {g : Nat} {w0 : World} : ∀ (vs : List Value) {w : World} {n : Nat}, w0.grownBy w (some g) → w0.grownBy (w.setCells g n vs) (some g)
  | [], _, _, h => h
  | v :: r, w, n, h => grown_setCells r (w := w.setCell ⟨g, n, none⟩ v) (n := n + 1) ⟨h.os, h.tape, h.output, by simpa using h.size, fun k h1 h2 => by rw [heap_setCell_other _ _ _ _ (fun e => h2 (by rw [e]))]; exact h.block k h1 h2⟩

/-- 'copy(d, s)' where both arrays are the buffer's own, d is at its array's head and not shorter than s. -/
theorem copy_into {P : Program} {w : World} {ops : Array Oper} {rest : List Oper} {o : Oper} {a : Act} {Q : Exit → Act → World → Prop} (hgd : o.guard = none) (d s : Operand) (dT sT : TypeId)
    (ho : o.op = .call { callee := .builtin .copy, args := #[d, s], argTypes := #[dT, sT] }) (e : TypeId) (hu : P.underlying dT = some (.slice e)) (hsz : (P.info? e).map (·.size) = some 1)
    (base g m cap c : Nat) (p : Option Addr) (bs : List UInt8) (ys : List Value) (hd : a.eval d = .slice (some ⟨g, 0, none⟩) m cap) (hs : a.eval s = .slice p bs.length c)
    (hod : w.ownsRow base e 1 (.slice (some ⟨g, 0, none⟩) m cap) m ys) (hos : w.ownsRow base e 1 (.slice p bs.length c) bs.length (bcells bs)) (hle : bs.length ≤ m)
    (h : ∀ w', w'.ownsRow base e 1 (.slice (some ⟨g, 0, none⟩) bs.length cap) bs.length (bcells bs) → Below base w w' → wpList P ops Q rest (a.put o.dst (goInt bs.length)) w') : wpList P ops Q (o :: rest) a w := by
  obtain ⟨h0, ⟨h1, _⟩ | ⟨g', cap', cur, h1, h2, h3, h4, h5, h6, h7⟩⟩ := hod
  · cases h1
  cases h1
  rw [Nat.mul_one] at h6
  refine wpList_copy_splice hgd d s dT sT ho e hu hsz _ _ m cap bs.length c hd hs g 0 cur.toList e (by simpa using h3) (bcells bs) ?_ ?_ ?_ ?_ base w (Below.refl _ _) h2 ?_
  · rw [bcells_length]; exact (Nat.min_eq_left hle).symm
  · intro hpos
    obtain ⟨_, ⟨h8, h8'⟩ | ⟨g2, cap2, cur2, h8, h9, h10, h11, h12, h13, h14⟩⟩ := hos
    · rw [bcells_length] at hpos; omega
    · cases h8
      refine ⟨rfl, _, rfl, fun j v hj => ?_⟩
      rw [Nat.mul_one] at h14
      have hj' : cur2.toList[j]? = some v := by
        rw [← h14, List.getElem?_take] at hj
        split at hj
        · exact hj
        · cases hj
      rw [addr_add0]
      unfold World.cell?
      simp only [h10]
      simpa using hj'
  · simp [bcells_length]; omega
  · intro v hv
    obtain ⟨b, _, rfl⟩ := List.mem_map.1 hv
    rfl
  · intro w' hh hb
    have hg := hh.out
    refine bcells_length bs ▸ h w' ⟨by simp [bcells_length], .inr ⟨g, cap, _, rfl, h2, hg, by omega, h5, ?_, ?_⟩⟩ hb
    · simp [splice, bcells_length]; omega
    · simp [splice, bcells_length]

/-- 'make([]byte, n)', n a variable. -/
theorem make_bytes {P : Program} {w : World} {ops : Array Oper} {rest : List Oper} {o : Oper} {a : Act} {Q : Exit → Act → World → Prop}
    (hg : o.guard = none) (l : Operand) (t : TypeId) (hop : o.op = Op.makeSlice t l l) (base : Nat) (e : TypeId) (h1 : P.underlying t = some (.slice e))
    (hinfo : (P.info? e).map (fun i => (i.zero, i.size, i.bytes)) = some (some (.int .u8 0), 1, 1)) (L : Int) (n : Nat) (hl : a.eval l = .int .i64 L) (hL : L = (n : Int)) (b2 : n ≤ 281474976710656) (b4 : base ≤ w.heap.size)
    (hK : ∀ w', w'.ownsRow base e 1 (.slice (some ⟨w.heap.size, 0, none⟩) n n) n (madeCells #[.int .u8 0] n).toList → Below base w w' → w.heap.size < w'.heap.size → (∀ k, k < w.heap.size → w'.heap[k]? = w.heap[k]?) → wpList P ops Q rest (a.put o.dst (.slice (some ⟨w.heap.size, 0, none⟩) n n)) w') :
    wpList P ops Q (o :: rest) a w := by
  obtain ⟨i, hi, hz, hs, hb⟩ := info_parts hinfo
  refine wpList_make_full w hg l l t hop base e i (.int .u8 0) 1 h1 hi hz hs .i64 .i64 L L n hl hl hL hL (by rw [hb]; omega) (by unfold maxLen; omega) b4 ?_
  intro w' ho hgr
  refine hK w' (by simpa [Value.cells] using ho) ((Below.refl base w).grown hgr b4 (fun k hk => by cases hk)) (ho.lt _ rfl).2 (fun k hk => hgr.block k hk (by simp))

/-- Bits of a uint32. -/
theorem u32_mask (i m : Nat) (hm : m = 2 ^ i - 1) (hm32 : m < 4294967296) (a : Int) (h0 : 0 ≤ a) (h1 : a < 4294967296) : bits .and .u32 a (m : Int) = a % ((2 ^ i : Nat) : Int) := by
  rw [u32_and a m h0 h1 (by omega) (by omega)]
  obtain ⟨n, rfl⟩ := Int.eq_ofNat_of_zero_le h0
  simp only [Int.toNat_natCast]
  rw [hm, Nat.and_two_pow_sub_one_eq_mod]
  rfl
theorem u32_and63 (a : Int) (h0 : 0 ≤ a) (h1 : a < 4294967296) : bits .and .u32 a 63 = a % 64 := u32_mask 6 63 rfl (by decide) a h0 h1
theorem u32_and255 (a : Int) (h0 : 0 ≤ a) (h1 : a < 4294967296) : bits .and .u32 a 255 = a % 256 := u32_mask 8 255 rfl (by decide) a h0 h1
theorem u32_join (i c : Nat) (hc : c % 2 ^ i = 0) (hc2 : c < 4294967296) (b : Int) (h0 : 0 ≤ b) (h1 : b < ((2 ^ i : Nat) : Int)) (h2 : b < 4294967296) : bits .or .u32 (c : Int) b = c + b := by
  rw [u32_or c b (by omega) (by omega) h0 h2]
  obtain ⟨n, rfl⟩ := Int.eq_ofNat_of_zero_le h0
  simp only [Int.toNat_natCast]
  rw [nat_join i c n hc (by exact_mod_cast h1)]
  rfl
theorem u32_or192 (b : Int) (h0 : 0 ≤ b) (h1 : b < 64) : bits .or .u32 192 b = 192 + b := u32_join 6 192 rfl (by decide) b h0 (by simpa using h1) (by omega)
theorem u32_or128 (b : Int) (h0 : 0 ≤ b) (h1 : b < 64) : bits .or .u32 128 b = 128 + b := u32_join 6 128 rfl (by decide) b h0 (by simpa using h1) (by omega)
theorem u32_or224 (b : Int) (h0 : 0 ≤ b) (h1 : b < 32) : bits .or .u32 224 b = 224 + b := u32_join 5 224 rfl (by decide) b h0 (by simpa using h1) (by omega)
theorem u32_or240 (b : Int) (h0 : 0 ≤ b) (h1 : b < 16) : bits .or .u32 240 b = 240 + b := u32_join 4 240 rfl (by decide) b h0 (by simpa using h1) (by omega)

/-- The bytes of a rune's encoding, as numbers; what is no Unicode scalar value is encoded as U+FFFD. -/
def encI (r : Int) : List Int :=
  if 0 ≤ r ∧ r ≤ 127 then [r]
  else if 128 ≤ r ∧ r ≤ 2047 then [192 + r / 64, 128 + r % 64]
  else if 2048 ≤ r ∧ r ≤ 55295 ∨ 57344 ≤ r ∧ r ≤ 65535 then [224 + r / 4096, 128 + r / 64 % 64, 128 + r % 64]
  else if 65536 ≤ r ∧ r ≤ 1114111 then [240 + r / 262144, 128 + r / 4096 % 64, 128 + r / 64 % 64, 128 + r % 64]
  else [239, 191, 189]

/-- What RuneLen returns. -/
def runeLenI (r : Int) : Int :=
  if 0 ≤ r ∧ r ≤ 127 then 1
  else if 128 ≤ r ∧ r ≤ 2047 then 2
  else if 2048 ≤ r ∧ r ≤ 55295 ∨ 57344 ≤ r ∧ r ≤ 65535 then 3
  else if 65536 ≤ r ∧ r ≤ 1114111 then 4
  else -1

theorem runeLenI_bounds (r : Int) : -1 ≤ runeLenI r ∧ runeLenI r ≤ 4 := by
  unfold runeLenI
  repeat' split
  all_goals omega

theorem encI_one {r : Int} (h0 : 0 ≤ r) (h1 : r ≤ 127) : encI r = [r] := by unfold encI; rw [if_pos ⟨h0, h1⟩]
theorem encI_two {r : Int} (h0 : 128 ≤ r) (h1 : r ≤ 2047) : encI r = [192 + r / 64, 128 + r % 64] := by unfold encI; rw [if_neg (by omega), if_pos ⟨h0, h1⟩]
theorem encI_three {r : Int} (h : 2048 ≤ r ∧ r ≤ 55295 ∨ 57344 ≤ r ∧ r ≤ 65535) : encI r = [224 + r / 4096, 128 + r / 64 % 64, 128 + r % 64] := by unfold encI; rw [if_neg (by omega), if_neg (by omega), if_pos h]
theorem encI_four {r : Int} (h0 : 65536 ≤ r) (h1 : r ≤ 1114111) : encI r = [240 + r / 262144, 128 + r / 4096 % 64, 128 + r / 64 % 64, 128 + r % 64] := by unfold encI; rw [if_neg (by omega), if_neg (by omega), if_neg (by omega), if_pos ⟨h0, h1⟩]
theorem encI_bad {r : Int} (h : r < 0 ∨ 55296 ≤ r ∧ r ≤ 57343 ∨ 1114111 < r) : encI r = [239, 191, 189] := by unfold encI; rw [if_neg (by omega), if_neg (by omega), if_neg (by omega), if_neg (by omega)]
theorem encI_cases (r : Int) : (0 ≤ r ∧ r ≤ 127) ∨ (128 ≤ r ∧ r ≤ 2047) ∨ (2048 ≤ r ∧ r ≤ 55295) ∨ (57344 ≤ r ∧ r ≤ 65535) ∨ (65536 ≤ r ∧ r ≤ 1114111) ∨ r < 0 ∨ (55296 ≤ r ∧ r ≤ 57343) ∨ 1114111 < r := by omega
theorem encI_byte (r : Int) : ∀ x ∈ encI r, 0 ≤ x ∧ x < 256 := by
  intro x hx
  unfold encI at hx
  split at hx
  · simp at hx; omega
  split at hx
  · simp at hx; omega
  split at hx
  · simp at hx; omega
  split at hx
  · simp at hx; omega
  · simp at hx; omega
theorem encI_length (r : Int) : 1 ≤ (encI r).length ∧ (encI r).length ≤ 4 := by
  unfold encI
  repeat' split
  all_goals simp

/-- The same bytes as bytes. -/
def encB (r : Int) : List UInt8 := (encI r).map fun x => UInt8.ofNat x.toNat
theorem bcells_of_ints (l : List Int) (h : ∀ x ∈ l, 0 ≤ x ∧ x < 256) : bcells (l.map fun x => UInt8.ofNat x.toNat) = l.map (Value.int .u8) := by
  induction l with
  | nil => rfl
  | cons x r ih =>
    have hx := h x (by simp)
    have e : ((UInt8.ofNat x.toNat).toNat : Int) = x := by
      rw [UInt8.toNat_ofNat']; omega
    simp only [List.map_cons, bcells, e] at ih ⊢
    rw [ih (fun y hy => h y (by simp [hy]))]
/-- What WriteRune adds: one byte (the low eight bits) for whatever is below 128. -/
def runeB (r : Int) : List UInt8 := if r < 128 then [UInt8.ofNat (r % 256).toNat] else encB r
theorem ofInts_inj {l m : List Int} (hl : ∀ x ∈ l, 0 ≤ x ∧ x < 256) (hm : ∀ x ∈ m, 0 ≤ x ∧ x < 256) (h : l.map (fun x => UInt8.ofNat x.toNat) = m.map (fun x => UInt8.ofNat x.toNat)) : l = m := by
  have h1 := congrArg bcells h
  rw [bcells_of_ints l hl, bcells_of_ints m hm] at h1
  exact List.map_inj_right (fun x y e => by injection e) |>.1 h1
/-- A Unicode scalar value. -/
def Scalar (r : Int) : Prop := 0 ≤ r ∧ r ≤ 1114111 ∧ ¬ (55296 ≤ r ∧ r ≤ 57343)
theorem runeB_scalar {r : Int} (h : Scalar r) : runeB r = (encI r).map fun x => UInt8.ofNat x.toNat := by
  obtain ⟨h0, h1, h2⟩ := h
  unfold runeB
  split
  · rw [encI_one h0 (by omega), show r % 256 = r by omega]; rfl
  · rfl
theorem encI_inj {r s : Int} (hr : Scalar r) (hs : Scalar s) (h : encI r = encI s) : r = s := by
  obtain ⟨r0, r1, r2⟩ := hr
  obtain ⟨s0, s1, s2⟩ := hs
  rcases encI_cases r with a | a | a | a | a | a | a | a
  · rw [encI_one a.1 a.2] at h
    rcases encI_cases s with b | b | b | b | b | b | b | b
    · rw [encI_one b.1 b.2] at h; simpa using h
    · rw [encI_two b.1 b.2] at h; simp at h
    · rw [encI_three (.inl b)] at h; simp at h
    · rw [encI_three (.inr b)] at h; simp at h
    · rw [encI_four b.1 b.2] at h; simp at h
    all_goals omega
  · rw [encI_two a.1 a.2] at h
    rcases encI_cases s with b | b | b | b | b | b | b | b
    · rw [encI_one b.1 b.2] at h; simp at h
    · rw [encI_two b.1 b.2] at h; simp at h; omega
    · rw [encI_three (.inl b)] at h; simp at h
    · rw [encI_three (.inr b)] at h; simp at h
    · rw [encI_four b.1 b.2] at h; simp at h
    all_goals omega
  · rw [encI_three (.inl a)] at h
    rcases encI_cases s with b | b | b | b | b | b | b | b
    · rw [encI_one b.1 b.2] at h; simp at h
    · rw [encI_two b.1 b.2] at h; simp at h
    · rw [encI_three (.inl b)] at h; simp at h; omega
    · rw [encI_three (.inr b)] at h; simp at h; omega
    · rw [encI_four b.1 b.2] at h; simp at h
    all_goals omega
  · rw [encI_three (.inr a)] at h
    rcases encI_cases s with b | b | b | b | b | b | b | b
    · rw [encI_one b.1 b.2] at h; simp at h
    · rw [encI_two b.1 b.2] at h; simp at h
    · rw [encI_three (.inl b)] at h; simp at h; omega
    · rw [encI_three (.inr b)] at h; simp at h; omega
    · rw [encI_four b.1 b.2] at h; simp at h
    all_goals omega
  · rw [encI_four a.1 a.2] at h
    rcases encI_cases s with b | b | b | b | b | b | b | b
    · rw [encI_one b.1 b.2] at h; simp at h
    · rw [encI_two b.1 b.2] at h; simp at h
    · rw [encI_three (.inl b)] at h; simp at h
    · rw [encI_three (.inr b)] at h; simp at h
    · rw [encI_four b.1 b.2] at h; simp at h; omega
    all_goals omega
  all_goals omega
theorem runeB_inj {r s : Int} (hr : Scalar r) (hs : Scalar s) (h : runeB r = runeB s) : r = s := by
  rw [runeB_scalar hr, runeB_scalar hs] at h
  exact encI_inj hr hs (ofInts_inj (encI_byte r) (encI_byte s) h)
theorem runeB_length (r : Int) : (runeB r).length ≤ 4 := by
  unfold runeB
  split
  · simp
  · simpa [encB] using (encI_length r).2
theorem cells_one {c : Int} (h0 : 0 ≤ c) (h1 : c < 256) : (#[Value.int .u8 c] : Array Value).toList = bcells [UInt8.ofNat c.toNat] :=
  (bcells_of_ints [c] (by simpa using ⟨h0, h1⟩)).symm
theorem bcells_encB (r : Int) : bcells (encB r) = (encI r).map (Value.int .u8) := bcells_of_ints _ (encI_byte r)
end Go.Fmt
