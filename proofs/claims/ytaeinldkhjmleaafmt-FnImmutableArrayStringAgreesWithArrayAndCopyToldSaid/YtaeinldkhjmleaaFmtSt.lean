/- The text of an array of Int objects: one and the same for a mutable and an immutable array. -/
import Derived.Test.YtaeinldkhjmleaaFmtFi
import Derived.Test.YtaeinldkhjmleaaFmtFs
import Derived.Test.YtaeinldkhjmleaaFmtInts
import Derived.Maps.AppendAt
namespace Go.Proofs.YtaeinldkhjmleaaFmt.Ob
open Go.ChangeShapes Go.WideShapes Go.ChangeAt Go.RowKit Go.Blk Go.Proofs.YtaeinldkhjmleaaFmt.Fi Go.Proofs.YtaeinldkhjmleaaFmt.Ft
theorem infoS : (Tryf.prog.info? 9).map (fun i => (i.zero, i.size, i.bytes)) = some (some (.string .empty), 1, 16) := by kernel_rfl
theorem m_istr (a : Addr) (w : World) : (method 216 44 (.pointer (some a)) "String").run Tryf.prog w = .ok (64, .pointer (some a)) w := by kernel_rfl
/-- The texts. -/
def txs (T : Nat → Int) (vs : List Int) : List ByteArray := vs.map (txt T)
def strs (l : List ByteArray) : List Value := l.map Value.string
theorem grown_of_below {a b : World} (h : Below a.heap.size a b) : a.grownBy b none := ⟨h.os, h.tape, h.output, h.size, fun k hk _ => h.block k hk⟩
section
variable {P : Program} {ops : Array Oper} {rest : List Oper} {o : Oper} {a : Act} {Q : Exit → Act → World → Prop}
theorem wp_str (hgd : o.guard = none) (s x : Operand) (ho : o.op = .call { callee := .builtin .append, args := #[s, x], argTypes := #[49, 49] }) (iS : TypeInfo) (ht : P.underlying 49 = some (.slice 9)) (hi : P.info? 9 = some iS ∧ iS.zero = some (.string .empty) ∧ iS.size = 1 ∧ iS.bytes = 16)
    {w wo wa : World} {k : Nat} {vo : Value} {xs : List ByteArray} (own : wo.ownsRow w.heap.size 9 1 vo k (strs xs)) (hb : Below w.heap.size w wo) (hg : Below wo.heap.size wo wa) (t : ByteArray) (hn : k ≤ 131072)
    (hsv : a.eval s = vo) (N : Nat) (hx : a.eval x = .slice (some ⟨N, 0, none⟩) 1 1) (hN : wa.heap.size = N)
    (h : ∀ v' w', w'.ownsRow w.heap.size 9 1 v' (k + 1) (strs (xs ++ [t])) → Below w.heap.size w w' → wpList P ops Q rest (a.put o.dst v') w') : wpList P ops Q (o :: rest) a (wa.alloc (.cells #[.string t] 9)) := by
  subst hN
  have own1 : (wa.alloc (.cells #[.string t] 9)).ownsRow w.heap.size 9 1 vo k (strs xs) := (own.kept (grown_of_below hg) (by cases hv : vo.ownBlock <;> simp)).alloc _
  have hsz : (wa.alloc (.cells #[.string t] 9)).heap.size = wa.heap.size + 1 := by simp
  refine wpList_append_own_at (wa.alloc (.cells #[.string t] 9)) hgd s x 49 ho w.heap.size 9 iS (.string .empty) 1 16 ht hi.1 hi.2.1 hi.2.2.1 hi.2.2.2 rfl (by decide) vo k (strs xs) hsv own1 ⟨wa.heap.size, 0, none⟩ 1 1 [.string t] hx rfl (fun j u hj => by
    have h := heap_alloc_new wa (.cells #[.string t] 9)
    exact World.news_of_block (t := 9) (fr := (0, 0)) h j u hj) (by simp [Value.oneCell']) (by unfold maxLen; omega) (by omega) (by rw [hsz]; have := hg.size; have := hb.size; omega) ?_
  intro v' w' hown' hgrow _ _
  refine h v' w' (by simpa [strs] using hown') ?_
  exact ((hb.trans (hg.mono hb.size)).alloc (by have := hg.size; have := hb.size; omega) _).grown hgrow (by rw [hsz]; have := hg.size; have := hb.size; omega) (fun j hj => (own.lt j hj).1)
end
/-- The joined texts. -/
def joined (T : Nat → Int) (vs : List Int) : ByteArray := ⟨(Lib.join ((txs T vs).map (·.data.toList)) [44, 32]).toArray⟩
/-- The text of an array. -/
def out (F : Stop.Interp) (T : Nat → Int) (vs : List Int) : ByteArray := text0 F (joined T vs)
theorem lens_le (xs : List (List UInt8)) (h : ∀ x ∈ xs, x.length ≤ 21) : Lib.lens xs ≤ 21 * xs.length := by
  induction xs with
  | nil => simp [Lib.lens]
  | cons x r ih =>
    have h1 := ih (fun y hy => h y (List.mem_cons_of_mem _ hy))
    have h2 := h x (List.mem_cons_self ..)
    simp only [Lib.lens, List.map_cons, List.sum_cons, List.length_cons] at *
    omega
theorem joined_le (T : Nat → Int) (vs : List Int) (hl : vs.length ≤ 131072) (hv : ∀ v ∈ vs, -9223372036854775808 ≤ v ∧ v ≤ 9223372036854775807) : (Lib.join ((txs T vs).map (·.data.toList)) [44, 32]).length ≤ 140737488355328 := by
  have h1 := lens_le ((txs T vs).map (·.data.toList)) (fun x hx => by
    simp only [txs, List.map_map, List.mem_map, Function.comp] at hx
    obtain ⟨v, hm, rfl⟩ := hx
    exact txt_size T v (hv v hm).1 (hv v hm).2)
  have hlen : ((txs T vs).map (·.data.toList)).length = vs.length := by simp [txs]
  cases h : (txs T vs).map (·.data.toList) with
  | nil => rw [Lib.join_nil]; simp
  | cons x r =>
    rw [Lib.join_length]
    rw [h] at h1 hlen
    simp only [List.length_cons, List.length_nil] at h1 hlen ⊢
    omega
/-- strings.Join at a row that the call owns. -/
theorem joinOwn (T : Nat → Int) (vs : List Int) (base : Nat) (v : Value) (w : World) (own : w.ownsRow base 9 1 v vs.length (strs (txs T vs))) (hl : vs.length ≤ 131072) (hv : ∀ v ∈ vs, -9223372036854775808 ≤ v ∧ v ≤ 9223372036854775807) :
    Calls Tryf.prog 14 #[v, .string ⟨#[44, 32]⟩] w fun e w' => e = .returned (.string (joined T vs)) ∧ Below w.heap.size w w' := by
  have hj := joined_le T vs hl hv
  have hlen : (txs T vs).length = vs.length := by simp [txs]
  rcases own.2 with ⟨e1, e2⟩ | ⟨g, cap, cur, e1, _, _, hcap, _⟩
  · have h0 : vs = [] := List.length_eq_zero_iff.1 e2
    subst h0
    subst e1
    refine (Tryf.strings_Join_none none 0 ⟨#[44, 32]⟩ w).mono ?_
    rintro e w' ⟨rfl, rfl⟩
    exact ⟨rfl, Below.refl _ _⟩
  · have hc : ∀ (j : Nat) x, (txs T vs)[j]? = some x → w.cell? ⟨g, 0 + j, none⟩ = some (.string x) := fun j x hx => by
      have h1 := own.cells (g := g) (by rw [e1]; rfl) j (.string x) (by simp [strs, hx])
      rw [← h1]
      congr 1
      exact (Lib.add_plain g 0 j).symm
    have hg : g < w.heap.size := (own.lt g (by rw [e1]; rfl)).2
    subst e1
    have H := Tryf.strings_Join g 0 cap (txs T vs) ⟨#[44, 32]⟩ w hc hg (by omega) (by omega) hj
    rw [hlen] at H
    exact H
set_option maxRecDepth 100000 in
set_option maxHeartbeats 4000000 in
theorem immString (F : Stop.Interp) (T : Nat → Int) (B : Nat) (q : Option Addr) (c : Nat) (bs : List Nat) (vs : List Int) (w : World) (hF : F.answers w.tape) (hB : w.cell? ⟨B, 0, none⟩ = some (.slice q vs.length c)) (hrow : ∀ j (hj : j < bs.length), ∃ g, q = some ⟨g, 0, none⟩ ∧ w.cell? ⟨g, j, none⟩ = some (.iface 44 (.pointer (some ⟨bs[j], 0, none⟩)))) (hI : IntsO w bs vs) (hl : vs.length ≤ 131072) (hv : ∀ v ∈ vs, -9223372036854775808 ≤ v ∧ v ≤ 9223372036854775807) (hT : Tab T w) :
    Calls Tryf.prog 8 #[.pointer (some ⟨B, 0, none⟩)] w fun e w' => e = .returned (.string (out F T vs)) ∧ Below w.heap.size w w' := by
  have HROW := Lib.hid hrow
  have HINT := Lib.hid hI
  have HV := Lib.hid hv
  have HT := Lib.hid hT
  have HF := Lib.hid hF
  have hm := m_istr
  obtain ⟨iS, hi⟩ := info_parts infoS
  have HS := Lib.hid hi
  clear hrow hI hi hv hT hF
  go_enter Tryf.func8, Tryf.ntmps8
  go_wp2
  go_loopw [3, 11] (fun v iv wr => ∃ k : Nat, k ≤ vs.length ∧ iv = .int .i64 k ∧ Hid (wr.ownsRow w.heap.size 9 1 v k (strs (txs T (vs.take k))) ∧ Below w.heap.size w wr)) (fun _ iv _ => vs.length - (intOf iv).toNat)
  case atStart => exact ⟨0, Nat.zero_le _, rfl, Lib.hid ⟨World.ownsRow_nil _ _ _ _, Below.refl _ _⟩⟩
  case round =>
    obtain ⟨k, hk, rfl, HR⟩ := hrel
    obtain ⟨wo, hwo⟩ : ∃ wo : World, wo = wr := ⟨_, rfl⟩
    subst hwo
    by_cases hlt : k < vs.length
    · have hkb : k < bs.length := by rw [HINT.out.1]; exact hlt
      obtain ⟨g, rfl, hc0⟩ := HROW.out k hkb
      have hcx := (HR.out.2.cell (World.block_lt_of_cell? w _ hc0)).trans hc0
      have hi0 := HINT.out.2 k hkb hlt
      have hci := (HR.out.2.cell (World.block_lt_of_cell? w _ hi0)).trans hi0
      have HTK := Lib.hid (List.take_succ_eq_append_getElem hlt)
      have hvk := HV.out vs[k] (List.getElem_mem _)
      clear hc0 hi0
      generalize bs[k] = b at *
      generalize vs[k] = x at *
      have HCP := Lib.hid (intString T x b wo hci hvk.1 hvk.2 (HT.out.old HR.out.2))
      clear hci hvk
      go_wp2_with (first | ((with_reducible refine HCP.out.mono ?_); rintro e w2 ⟨rfl, hb2⟩; have HB2 := Lib.hid hb2; clear hb2) | (at_builtin; refine wp_str rfl _ _ rfl iS Tryf.underlying49 HS.out HR.out.1 HR.out.2 HB2.out _ (by omega) rfl _ rfl (by simp) ?_; intro v5 w5 hown5 hb5; have HO5 := Lib.hid hown5; have HB5 := Lib.hid hb5; clear hown5 hb5))
      go_roundw
      case rel =>
        refine ⟨k + 1, hlt, by go_num, Lib.hid ⟨?_, HB5.out⟩⟩
        rw [HTK.out]
        have := HO5.out
        simpa [txs] using this
      case measure => simp [intOf]; omega
    · obtain rfl : k = vs.length := by omega
      have hown := HR.out.1
      rw [List.take_length] at hown
      have hsz := HR.out.2.size
      have HJ := Lib.hid (joinOwn T vs w.heap.size u3 wo hown hl HV.out)
      clear hown
      go_wp2_with (fail)
      refine HJ.out.mono ?_
      rintro e w2 ⟨rfl, hb2⟩
      have hF2 : F.answers w2.tape := by rw [hb2.tape, HR.out.2.tape]; exact HF.out
      have hrun := run0 F (w2.alloc (.cells #[.iface 9 (.string (joined T vs))] 20)) hF2 ⟨w2.heap.size, 0, none⟩ (joined T vs) (Go.cell_one_new w2 _ 20 0 _ rfl)
      have HBB : Hid (Below w.heap.size w w2) := Lib.hid (HR.out.2.trans (hb2.mono hsz))
      clear hb2 hF2 HJ HR
      go_wp2
      go_ret
      exact ⟨rfl, (HBB.out.alloc HBB.out.size _).drew⟩
set_option maxRecDepth 100000 in
set_option maxHeartbeats 4000000 in
theorem arrString (F : Stop.Interp) (T : Nat → Int) (B : Nat) (q : Option Addr) (c : Nat) (bs : List Nat) (vs : List Int) (w : World) (hF : F.answers w.tape) (hB : w.cell? ⟨B, 0, none⟩ = some (.slice q vs.length c)) (hrow : ∀ j (hj : j < bs.length), ∃ g, q = some ⟨g, 0, none⟩ ∧ w.cell? ⟨g, j, none⟩ = some (.iface 44 (.pointer (some ⟨bs[j], 0, none⟩)))) (hI : IntsO w bs vs) (hl : vs.length ≤ 131072) (hv : ∀ v ∈ vs, -9223372036854775808 ≤ v ∧ v ≤ 9223372036854775807) (hT : Tab T w) :
    Calls Tryf.prog 10 #[.pointer (some ⟨B, 0, none⟩)] w fun e w' => e = .returned (.string (out F T vs)) ∧ Below w.heap.size w w' := by
  have HROW := Lib.hid hrow
  have HINT := Lib.hid hI
  have HV := Lib.hid hv
  have HT := Lib.hid hT
  have HF := Lib.hid hF
  have hm := m_istr
  obtain ⟨iS, hi⟩ := info_parts infoS
  have HS := Lib.hid hi
  clear hrow hI hi hv hT hF
  go_enter Tryf.func10, Tryf.ntmps10
  go_wp2
  go_loopw [3, 11] (fun v iv wr => ∃ k : Nat, k ≤ vs.length ∧ iv = .int .i64 k ∧ Hid (wr.ownsRow w.heap.size 9 1 v k (strs (txs T (vs.take k))) ∧ Below w.heap.size w wr)) (fun _ iv _ => vs.length - (intOf iv).toNat)
  case atStart => exact ⟨0, Nat.zero_le _, rfl, Lib.hid ⟨World.ownsRow_nil _ _ _ _, Below.refl _ _⟩⟩
  case round =>
    obtain ⟨k, hk, rfl, HR⟩ := hrel
    obtain ⟨wo, hwo⟩ : ∃ wo : World, wo = wr := ⟨_, rfl⟩
    subst hwo
    by_cases hlt : k < vs.length
    · have hkb : k < bs.length := by rw [HINT.out.1]; exact hlt
      obtain ⟨g, rfl, hc0⟩ := HROW.out k hkb
      have hcx := (HR.out.2.cell (World.block_lt_of_cell? w _ hc0)).trans hc0
      have hi0 := HINT.out.2 k hkb hlt
      have hci := (HR.out.2.cell (World.block_lt_of_cell? w _ hi0)).trans hi0
      have HTK := Lib.hid (List.take_succ_eq_append_getElem hlt)
      have hvk := HV.out vs[k] (List.getElem_mem _)
      clear hc0 hi0
      generalize bs[k] = b at *
      generalize vs[k] = x at *
      have HCP := Lib.hid (intString T x b wo hci hvk.1 hvk.2 (HT.out.old HR.out.2))
      clear hci hvk
      go_wp2_with (first | ((with_reducible refine HCP.out.mono ?_); rintro e w2 ⟨rfl, hb2⟩; have HB2 := Lib.hid hb2; clear hb2) | (at_builtin; refine wp_str rfl _ _ rfl iS Tryf.underlying49 HS.out HR.out.1 HR.out.2 HB2.out _ (by omega) rfl _ rfl (by simp) ?_; intro v5 w5 hown5 hb5; have HO5 := Lib.hid hown5; have HB5 := Lib.hid hb5; clear hown5 hb5))
      go_roundw
      case rel =>
        refine ⟨k + 1, hlt, by go_num, Lib.hid ⟨?_, HB5.out⟩⟩
        rw [HTK.out]
        have := HO5.out
        simpa [txs] using this
      case measure => simp [intOf]; omega
    · obtain rfl : k = vs.length := by omega
      have hown := HR.out.1
      rw [List.take_length] at hown
      have hsz := HR.out.2.size
      have HJ := Lib.hid (joinOwn T vs w.heap.size u3 wo hown hl HV.out)
      clear hown
      go_wp2_with (fail)
      refine HJ.out.mono ?_
      rintro e w2 ⟨rfl, hb2⟩
      have hF2 : F.answers w2.tape := by rw [hb2.tape, HR.out.2.tape]; exact HF.out
      have hrun := run0 F (w2.alloc (.cells #[.iface 9 (.string (joined T vs))] 20)) hF2 ⟨w2.heap.size, 0, none⟩ (joined T vs) (Go.cell_one_new w2 _ 20 0 _ rfl)
      have HBB : Hid (Below w.heap.size w w2) := Lib.hid (HR.out.2.trans (hb2.mono hsz))
      clear hb2 hF2 HJ HR
      go_wp2
      go_ret
      exact ⟨rfl, (HBB.out.alloc HBB.out.size _).drew⟩
end Go.Proofs.YtaeinldkhjmleaaFmt.Ob
