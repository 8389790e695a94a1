/- A buffer that a quoted text is appended to: in the formatter's own array, then in a new one. Plain laws. -/
import Derived.Test.YtlekmfkcbgkfgaaDoorWr
import Derived.ArgAppend
import Derived.Lib.AppendStr
namespace Go.Proofs.YtlekmfkcbgkfgaaDoor.Fm
open Go.ChangeShapes Go.WideShapes Go.ChangeAt Go.RowKit Go.Fmt Go.Lib

theorem Wr.sets {G O : Nat} : ∀ (vs : List Value) (o : Nat) {w w' : World}, O ≤ o → Wr G O w w' → Wr G O w (w'.setCells G o vs)
  | [], _, _, _, _, h => h
  | v :: vs, o, w, w', ho, h => Wr.sets vs (o + 1) (by omega) (h.set ho (v := v))
/-- What the buffer holds. -/
def QB (w : World) (N F B : Nat) (f : Flags) (v : Value) (bs : List UInt8) : Prop :=
  ∃ G O c, v = .slice (some ⟨G, O, none⟩) bs.length c ∧ bs.length ≤ c ∧ c ≤ maxLen ∧ Fresh w N F B f ∧ At0 w N F B G O c ∧ ∀ j (hj : j < bs.length), w.cell? ⟨G, O + j, none⟩ = some (.int .u8 (bs[j].toNat : Int))
theorem At0.old {w w' : World} {N F B G O L : Nat} (h : At0 w N F B G O L) (hb : Below w.heap.size w w') : At0 w' N F B G O L :=
  ⟨h.gb, h.gf, h.ng, Nat.lt_of_lt_of_le h.lt hb.size, fun j hj => by
    obtain ⟨⟨v, h1⟩, h2⟩ := h.room j hj
    exact ⟨⟨v, (hb.cell (p := ⟨G, O + j, none⟩) h.lt).trans h1⟩, (hb.frozen (p := ⟨G, O + j, none⟩) h.lt).trans h2⟩⟩
theorem QB.old {w w' : World} {N F B : Nat} {f : Flags} {v : Value} {bs : List UInt8} (h : QB w N F B f v bs) (hb : Below w.heap.size w w') : QB w' N F B f v bs := by
  obtain ⟨G, O, c, h1, h2, h3, h4, h5, h6⟩ := h
  exact ⟨G, O, c, h1, h2, h3, h4.grow hb, h5.old hb, fun j hj => (hb.cell (p := ⟨G, O + j, none⟩) h5.lt).trans (h6 j hj)⟩
theorem qb_room {w : World} {N F B G O c : Nat} {f : Flags} {bs cs : List UInt8} (h2 : bs.length + cs.length ≤ c) (h3 : c ≤ maxLen) (h4 : Fresh w N F B f) (h5 : At0 w N F B G O c) (h6 : ∀ j (hj : j < bs.length), w.cell? ⟨G, O + j, none⟩ = some (.int .u8 (bs[j].toNat : Int))) :
    QB (w.setCells G (O + bs.length) (bcells cs)) N F B f (.slice (some ⟨G, O, none⟩) (bs.length + cs.length) c) (bs ++ cs) ∧ Below N w (w.setCells G (O + bs.length) (bcells cs)) := by
  have hw : Wr G O w (w.setCells G (O + bs.length) (bcells cs)) := Wr.sets _ _ (by omega) (Wr.refl G O w)
  refine ⟨⟨G, O, c, by rw [List.length_append], by rw [List.length_append]; exact h2, h3, h4.wr h5 hw, h5.wr hw, fun j hj => ?_⟩, hw.below h5.ng⟩
  rw [List.length_append] at hj
  by_cases hjb : j < bs.length
  · rw [World.cell?_setCells_out _ _ _ _ _ (fun _ _ => Or.inl (by show O + j < O + bs.length; omega))]
    rw [List.getElem_append_left hjb]
    exact h6 j hjb
  · have hjc : j - bs.length < cs.length := by omega
    have h := World.cell?_setCells_in G (bcells cs) (O + bs.length) w (fun i hi => by
      obtain ⟨v, hv⟩ := (h5.room (bs.length + i) (by rw [bcells_length] at hi; omega)).1
      rw [show O + bs.length + i = O + (bs.length + i) by omega, hv]; rfl) (j - bs.length) (by rw [bcells_length]; exact hjc)
    rw [show O + j = O + bs.length + (j - bs.length) by omega, h, List.getElem_append_right (by omega)]
    simp [bcells]
theorem qb_grown {w w' : World} {N F B : Nat} {f : Flags} {v' : Value} {bs cs : List UInt8} (h4 : Fresh w N F B f) (ho : w'.ownsRow w.heap.size 5 1 v' (bs.length + cs.length) (bcells bs ++ bcells cs)) (hg : w.grownBy w' none) (hpos : 0 < bs.length + cs.length) :
    QB w' N F B f v' (bs ++ cs) ∧ Below N w w' := by
  have hb : Below w.heap.size w w' := (Below.refl _ _).grown hg (Nat.le_refl _) (fun k hk => by cases hk)
  obtain ⟨p, c, rfl, h1, h2⟩ := ownsRow_form ho
  obtain ⟨g, rfl, hg1, hg2⟩ := Go.Fmt.own_some ho (by omega)
  have hN := h4.lf
  have hF := h4.ltf
  have hBl := h4.ltb
  refine ⟨⟨g, 0, c, by rw [List.length_append], by rw [List.length_append]; exact h1, h2, h4.grow hb, ⟨by omega, by omega, by omega, hg2, fun j hj => ?_⟩, fun j hj => ?_⟩, hb.mono (by omega)⟩
  · rw [Nat.zero_add]; exact own_cell ho hj
  · have := ho.cells (g := g) rfl j (.int .u8 ((bs ++ cs)[j].toNat : Int)) (by rw [← bcells_append, bcells, List.getElem?_map, List.getElem?_eq_getElem hj]; rfl)
    rw [Go.Fmt.addr_add0] at this
    rw [Nat.zero_add]; exact this
theorem run_append_room_str8 {P : Program} (w : World) (t u ty e : TypeId) (i : TypeInfo) (ht : P.underlying t = some (.slice e)) (hu : P.underlying u = some .string) (hi : P.info? e = some i) (hs1 : i.size = 1)
    (b off sLen sCap : Nat) (s : ByteArray) (hroom : sLen + s.size ≤ sCap) (hc : ∀ j, j < (strCells s).length → (w.cell? ⟨b, off + sLen + j, none⟩).isSome = true) (hf : ∀ j, j < (strCells s).length → w.frozen? ⟨b, off + sLen + j, none⟩ = false) :
    (Builtin.append_ #[t, u] ty #[.slice (some ⟨b, off, none⟩) sLen sCap, .string s]).run P w = .ok (.slice (some ⟨b, off, none⟩) (sLen + s.size) sCap) (w.setCells b (off + sLen) (strCells s)) := by
  have hfc := run_firstCells_string (P := P) w 1 s
  have hst := run_storeCells_cells (P := P) b (off + sLen) (strCells s) 0 w (by simpa using hc) (by simpa using hf) (strCells_oneCell s)
  simp only [Nat.add_zero] at hst
  simp [Builtin.append_, run_underlying ht, run_underlying hu, sizeOf, typeInfo, hi, hs1, Builtin.lenOf, hroom, hfc, Addr.add_lit, hst]
theorem run_append_grows_str8 {P : Program} (w : World) (t u ty e : TypeId) (i : TypeInfo) (ht : P.underlying t = some (.slice e)) (hu : P.underlying u = some .string) (hi : P.info? e = some i) (hz : i.zero = some (.int .u8 0)) (hs1 : i.size = 1) (hb1 : i.bytes = 1)
    (b : Addr) (n cap : Nat) (olds : List Value) (hlo : olds.length = n) (holds : ∀ j v, olds[j]? = some v → w.cell? (b.add j) = some v) (s : ByteArray) (hg : cap < n + s.size) (h63 : n + s.size ≤ maxLen) (hbytes : n + s.size ≤ 140737488355328) :
    ∃ v' w', (Builtin.append_ #[t, u] ty #[.slice (some b) n cap, .string s]).run P w = .ok v' w' ∧ w'.ownsRow w.heap.size e 1 v' (n + s.size) (olds ++ strCells s) ∧ w.grownBy w' none := by
  have hsmall : n + s.size ≤ 9223372036854775807 := by simp only [maxLen] at h63; omega
  have hge := grownCap_ge w (n + s.size) cap e
  have hcm : grownCap w (n + s.size) cap e ≤ maxLen := grownCap_le_maxLen w (n + s.size) cap e h63
  have hr := run_append_grow_string (P := P) w t u ty e i (.int .u8 0) ht hu hi hz b n cap olds (by rw [hs1, Nat.mul_one]; exact hlo) holds s hg (by omega) (growslice_fits hg (by rw [hb1, Nat.mul_one]; exact hbytes))
  refine ⟨_, _, hr, ⟨by simp [hlo, strCells_length], .inr ⟨w.heap.size, _, _, rfl, Nat.le_refl _, heap_alloc_new w.drew _, hge, hcm, ?_, ?_⟩⟩, ⟨rfl, rfl, rfl, by simp, fun k hk _ => Below.heap_alloc w.drew _ k hk⟩⟩
  · simp only [Array.size_append, List.size_toArray, size_zeroCells, hlo, strCells_length]
    simp [Value.cells]
    omega
  · simp only [Array.toList_append]
    have : (olds ++ strCells s).length = (n + s.size) * 1 := by simp [hlo, strCells_length]
    rw [← this]
    exact List.take_left

def Pr (bs : List UInt8) : Prop := ∀ b ∈ bs, 32 ≤ b.toNat ∧ b.toNat ≤ 126
/-- The buffer holds printable bytes, a quote first; n: at most so many. -/
def QP (w : World) (N F B : Nat) (f : Flags) (v : Value) (n : Nat) : Prop := ∃ bs, bs.length ≤ n ∧ Pr bs ∧ bs.head? = some 34 ∧ QB w N F B f v bs
theorem QP.old {w w' : World} {N F B n : Nat} {f : Flags} {v : Value} (h : QP w N F B f v n) (hb : Below w.heap.size w w') : QP w' N F B f v n := by
  obtain ⟨bs, h1, h2, h3, h4⟩ := h
  exact ⟨bs, h1, h2, h3, h4.old hb⟩
theorem QP.le {w : World} {N F B n m : Nat} {f : Flags} {v : Value} (h : QP w N F B f v n) (hm : n ≤ m) : QP w N F B f v m := by
  obtain ⟨bs, h1, h2, h3, h4⟩ := h
  exact ⟨bs, by omega, h2, h3, h4⟩
theorem QB.lt {w : World} {N F B : Nat} {f : Flags} {v : Value} {bs : List UInt8} (h : QB w N F B f v bs) : N ≤ w.heap.size := by
  obtain ⟨_, _, _, _, _, _, h4, _⟩ := h
  have := h4.lf
  have := h4.ltf
  omega
/-- One byte is appended. -/
theorem run_qb {P : Program} (w : World) (t ty : TypeId) (i : TypeInfo) (ht : P.underlying t = some (.slice 5)) (hi : P.info? 5 = some i) (hz : i.zero = some (.int .u8 0)) (hs1 : i.size = 1) (hb1 : i.bytes = 1) {N F B : Nat} {f : Flags} {v : Value} {bs : List UInt8} (hQ : QB w N F B f v bs)
    (ad : Addr) (z : UInt8) (c : Nat) (hc : w.cell? ad = some (.int .u8 (z.toNat : Int))) (hn : bs.length ≤ 100000000) :
    ∃ v' w', (Builtin.append_ #[t, t] ty #[v, .slice (some ad) 1 c]).run P w = .ok v' w' ∧ QB w' N F B f v' (bs ++ [z]) ∧ Below N w w' := by
  obtain ⟨G, O, cap, rfl, h2, h3, h4, h5, h6⟩ := hQ
  have hnews : ∀ j u, (bcells [z])[j]? = some u → w.cell? (ad.add j) = some u := fun j u hj => by
    rcases j with _ | j
    · simp [bcells] at hj; subst hj; exact hc
    · simp [bcells] at hj
  by_cases hr : bs.length + 1 ≤ cap
  · have hrun := run_append_room_cells (P := P) w t ty 5 i ht hi G O bs.length cap ad 1 c (bcells [z]) (by rw [hs1]; rfl) hnews (by simp [bcells, Value.oneCell']) hr (fun j hj => by
      obtain ⟨u, hu⟩ := (h5.room (bs.length + j) (by rw [bcells_length] at hj; simp at hj; omega)).1
      rw [hs1, Nat.mul_one, Nat.add_assoc, hu]; rfl) (fun j hj => by
      rw [hs1, Nat.mul_one, Nat.add_assoc]
      exact (h5.room (bs.length + j) (by rw [bcells_length] at hj; simp at hj; omega)).2)
    rw [hs1, Nat.mul_one] at hrun
    exact ⟨_, _, hrun, qb_room (cs := [z]) hr h3 h4 h5 h6⟩
  · obtain ⟨v', w', hrun, r1, r2⟩ := run_append_arg_grows (P := P) w t ty 5 i (.int .u8 0) 1 1 ht hi hz hs1 hb1 rfl (by decide) ⟨G, O, none⟩ bs.length cap (bcells bs) (by rw [bcells_length, Nat.mul_one]) (fun j u hj => by
      rw [Go.Fmt.addr_add]
      have hj' : j < bs.length := by
        have := (List.getElem?_eq_some_iff.1 hj).1
        rwa [bcells_length] at this
      rw [h6 j hj']
      rw [bcells, List.getElem?_map, List.getElem?_eq_getElem hj'] at hj
      exact hj) ad 1 c (bcells [z]) (by simp [bcells]) hnews (by omega) (by unfold maxLen; omega) (by omega)
    exact ⟨v', w', hrun, qb_grown h4 r1 r2 (by simp)⟩
/-- A string is appended. -/
theorem run_qs {P : Program} (w : World) (t u ty : TypeId) (i : TypeInfo) (ht : P.underlying t = some (.slice 5)) (hu : P.underlying u = some .string) (hi : P.info? 5 = some i) (hz : i.zero = some (.int .u8 0)) (hs1 : i.size = 1) (hb1 : i.bytes = 1) {N F B : Nat} {f : Flags} {v : Value} {bs : List UInt8} (hQ : QB w N F B f v bs)
    (s : ByteArray) (hn : bs.length ≤ 100000000) (hs : s.size ≤ 1000) (hs0 : 0 < s.size) :
    ∃ v' w', (Builtin.append_ #[t, u] ty #[v, .string s]).run P w = .ok v' w' ∧ QB w' N F B f v' (bs ++ s.data.toList) ∧ Below N w w' := by
  obtain ⟨G, O, cap, rfl, h2, h3, h4, h5, h6⟩ := hQ
  have hsl : s.data.toList.length = s.size := size_list s
  by_cases hr : bs.length + s.size ≤ cap
  · have hrun := run_append_room_str8 (P := P) w t u ty 5 i ht hu hi hs1 G O bs.length cap s hr (fun j hj => by
      rw [strCells_length] at hj
      obtain ⟨x, hx⟩ := (h5.room (bs.length + j) (by omega)).1
      rw [Nat.add_assoc, hx]; rfl) (fun j hj => by
      rw [strCells_length] at hj
      rw [Nat.add_assoc]
      exact (h5.room (bs.length + j) (by omega)).2)
    have hq := qb_room (cs := s.data.toList) (by rw [hsl]; exact hr) h3 h4 h5 h6
    rw [hsl] at hq
    exact ⟨_, _, hrun, hq⟩
  · obtain ⟨v', w', hrun, r1, r2⟩ := run_append_grows_str8 (P := P) w t u ty 5 i ht hu hi hz hs1 hb1 ⟨G, O, none⟩ bs.length cap (bcells bs) (bcells_length bs) (fun j x hj => by
      rw [Go.Fmt.addr_add]
      have hj' : j < bs.length := by
        have := (List.getElem?_eq_some_iff.1 hj).1
        rwa [bcells_length] at this
      rw [h6 j hj']
      rw [bcells, List.getElem?_map, List.getElem?_eq_getElem hj'] at hj
      exact hj) s (by omega) (by unfold maxLen; omega) (by omega)
    rw [← hsl] at r1
    exact ⟨v', w', hrun, qb_grown (cs := s.data.toList) h4 r1 r2 (by omega)⟩
end Go.Proofs.YtlekmfkcbgkfgaaDoor.Fm
