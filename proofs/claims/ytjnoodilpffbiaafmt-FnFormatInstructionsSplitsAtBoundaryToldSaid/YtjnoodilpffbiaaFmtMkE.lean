/- The law FnMakeInstructionExactBytes: its walk. -/
import Derived.Test.YtjnoodilpffbiaaFmtMk
import Derived.Test.YtjnoodilpffbiaaFmtCut
namespace Go.Mk
def modW (z : Int) : Int := if z = 1 then 256 else if z = 2 then 65536 else 4294967296
theorem field_mod (z x : Int) (hz : z = 1 ∨ z = 2 ∨ z = 4) : rd 0 (field z.toNat x) = x % modW z := by
  rcases hz with rfl | rfl | rfl
  · simp [field, rd, modW]
  · show rd 0 (field 2 x) = _
    rw [field2]; simp [rd, modW]; omega
  · show rd 0 (field 4 x) = _
    rw [field4]; simp [rd, modW]; omega
theorem rd_zeros : ∀ (n : Nat), rd 0 (List.replicate n 0) = 0
  | 0 => rfl
  | n + 1 => by simpa [List.replicate_succ, rd] using rd_zeros n
theorem rd_bound : ∀ (l : List Int) (a : Int), 0 ≤ a → (∀ b ∈ l, 0 ≤ b ∧ b < 256) → 0 ≤ rd a l ∧ rd a l < (a + 1) * 256 ^ l.length
  | [], a, h, _ => by simp [rd]; omega
  | b :: l, a, h, hb => by
    have h1 := hb b (by simp)
    have h2 := rd_bound l (a * 256 + b) (by omega) (fun x hx => hb x (by simp [hx]))
    refine ⟨h2.1, Int.lt_of_lt_of_le h2.2 ?_⟩
    rw [List.length_cons, Int.pow_succ, Int.mul_comm (256 ^ l.length) 256, ← Int.mul_assoc]
    exact Int.mul_le_mul_of_nonneg_right (by omega) (Int.pow_nonneg (by omega))
theorem rd_small (l : List Int) (hb : ∀ b ∈ l, 0 ≤ b ∧ b < 256) (hl : l.length ≤ 3) : 0 ≤ rd 0 l ∧ rd 0 l < 16777216 := by
  have h := rd_bound l 0 (by omega) hb
  refine ⟨h.1, Int.lt_of_lt_of_le h.2 ?_⟩
  rcases (show l.length = 0 ∨ l.length = 1 ∨ l.length = 2 ∨ l.length = 3 by omega) with e | e | e | e <;> rw [e] <;> decide
theorem rd_snoc (l : List Int) (k : Nat) (h : k < l.length) : rd 0 (l.take (k + 1)) = rd 0 (l.take k) * 256 + l[k] := by
  rw [List.take_succ_eq_append_getElem h, rd_append]; rfl
/-- The bytes of operand j's field. -/
def fieldAt (zs xs : List Int) (j : Nat) : List Int := match xs[j]? with | some x => field (zs.getD j 0).toNat x | none => List.replicate (zs.getD j 0).toNat 0
theorem body_at : ∀ (zs xs : List Int) (j : Nat) (_ : j < zs.length), (∀ z ∈ zs, 0 ≤ z) → ∃ A C, body zs xs = A ++ (fieldAt zs xs j ++ C) ∧ (A.length : Int) = tot (zs.take j)
  | [], _, _, h, _ => by simp at h
  | z :: zs, [], 0, _, _ => ⟨[], body zs [], by simp [body, fieldAt], by simp [tot]⟩
  | z :: zs, x :: xs, 0, _, _ => ⟨[], body zs xs, by simp [body, fieldAt], by simp [tot]⟩
  | z :: zs, [], j + 1, h, hn => by
    obtain ⟨A, C, e1, e2⟩ := body_at zs [] j (by simpa using h) (fun z hz => hn z (by simp [hz]))
    have hz := hn z (by simp)
    refine ⟨List.replicate z.toNat 0 ++ A, C, ?_, by simp [tot, ← e2]; omega⟩
    simp only [body]
    rw [e1]
    simp [fieldAt]
  | z :: zs, x :: xs, j + 1, h, hn => by
    obtain ⟨A, C, e1, e2⟩ := body_at zs xs j (by simpa using h) (fun z hz => hn z (by simp [hz]))
    have hz := hn z (by simp)
    refine ⟨field z.toNat x ++ A, C, ?_, by simp [field_length, tot, ← e2]; omega⟩
    simp only [body]
    rw [e1]
    simp [fieldAt]
theorem fieldAt_length (zs xs : List Int) (j : Nat) (h : j < zs.length) : (fieldAt zs xs j).length = (zs[j]).toNat := by
  have e : zs.getD j 0 = zs[j] := by rw [List.getD_eq_getElem?_getD, List.getElem?_eq_getElem h]; rfl
  unfold fieldAt
  rw [e]
  split
  · exact field_length _ _
  · simp
theorem fieldAt_byte (zs xs : List Int) (j : Nat) : ∀ b ∈ fieldAt zs xs j, 0 ≤ b ∧ b < 256 := by
  unfold fieldAt
  split
  · exact field_byte _ _
  · intro b hb
    have := List.eq_of_mem_replicate hb
    omega
theorem fieldAt_given (zs xs : List Int) (j : Nat) (h : j < zs.length) (hx : j < xs.length) (hz : zs[j] = 1 ∨ zs[j] = 2 ∨ zs[j] = 4) : rd 0 (fieldAt zs xs j) = xs[j] % modW zs[j] := by
  have e : zs.getD j 0 = zs[j] := by rw [List.getD_eq_getElem?_getD, List.getElem?_eq_getElem h]; rfl
  unfold fieldAt
  rw [e, List.getElem?_eq_getElem hx]
  exact field_mod _ _ hz
theorem fieldAt_not (zs xs : List Int) (j : Nat) (hx : ¬ j < xs.length) : rd 0 (fieldAt zs xs j) = 0 := by
  unfold fieldAt
  rw [List.getElem?_eq_none (by omega)]
  exact rd_zeros _
end Go.Mk
namespace Go.Proofs.YtjnoodilpffbiaaFmt.Mk
open Go.ChangeShapes Go.WideShapes Go.ChangeAt Go.RowKit Go.Blk Go.Mk Go.LawFrame

theorem widthOK (z : Int) (w : World) (hz : z = 1 ∨ z = 2 ∨ z = 4) : Calls Tryf.prog 12 #[.int .i64 z] w fun e w' => e = .returned (.bool true) ∧ w = w' := by
  rcases hz with rfl | rfl | rfl
  all_goals
    go_enter Tryf.func12, Tryf.ntmps12
    go_wp2
    go_ret
    exact ⟨rfl, rfl⟩

theorem info3 : (Tryf.prog.info? 3).map (fun i => (i.zero, i.size, i.bytes)) = some (some (.int .i64 0), 1, 8) := by kernel_rfl
theorem make02 (w : World) : (Instr.makeSlice 23 (.int .i64 0) (.int .i64 2)).run Tryf.prog w = .ok (.slice (some ⟨w.heap.size, 0, none⟩) 0 2) (w.alloc (.cells #[.int .i64 0, .int .i64 0] 3)) := by kernel_rfl

theorem _root_.Go.LawFrame.RowIs.old {w w' : World} {g i : Nat} {zs : List Int} (h : RowIs w g i zs) (hb : Below w.heap.size w w') : RowIs w' g i zs := by
  obtain ⟨a, cap, h1, h2, h3, h4⟩ := h
  exact ⟨a, cap, (hb.cell (World.block_lt_of_cell? w _ h1)).trans h1, h2, h3, fun j hj => (hb.cell (World.block_lt_of_cell? w _ (h4 j hj))).trans (h4 j hj)⟩
/-- The widths of the operands of each opcode. -/
def opRows : List (List Int) := [[2], [], [], [], [], [], [], [], [], [4], [4], [4], [4], [], [2], [2], [], [], [], [], [1, 1], [1], [2], [2], [2, 1], [1], [1], [1], [1, 1], [1], [1], [1], [1], [1, 1], [1], [2, 1], [], [], [], [], [1], []]
instance (zs : List Int) : Decidable (Widths zs) := by unfold Widths; infer_instance
end Go.Proofs.YtjnoodilpffbiaaFmt.Mk
