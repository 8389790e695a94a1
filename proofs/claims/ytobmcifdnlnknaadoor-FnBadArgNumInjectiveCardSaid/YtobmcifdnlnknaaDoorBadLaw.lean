/- The laws on badArgNum and missingArg: their walks. -/
import Derived.Test.YtobmcifdnlnknaaDoorBadArg
import Derived.Test.YtobmcifdnlnknaaDoorFrame
namespace Go.Proofs.YtobmcifdnlnknaaDoor.Fm
open Go.ChangeShapes Go.WideShapes Go.ChangeAt Go.RowKit Go.Lib Go.Fmt

/-- The post of zzEnc: a new block that holds the rune's bytes. -/
def NewBytes (w : World) (bs : List UInt8) (e : Ending) (w' : World) : Prop :=
  ∃ arr : Array Value, arr.toList = bcells bs ∧ e = .returned (.slice (some ⟨w.heap.size, 0, none⟩) bs.length bs.length) ∧ w' = w.alloc (.cells arr 5)

theorem newBytes_ints {w : World} {bs : List UInt8} {e : Ending} {w' : World} (l : List Int) (hl : ∀ x ∈ l, 0 ≤ x ∧ x < 256) (hb : bs = l.map fun x => UInt8.ofNat x.toNat) (arr : Array Value) (harr : arr.toList = l.map (Value.int .u8))
    (n : Nat) (hn : n = l.length) (he : e = .returned (.slice (some ⟨w.heap.size, 0, none⟩) n n)) (hw : w' = w.alloc (.cells arr 5)) : NewBytes w bs e w' := by
  subst hb
  exact ⟨arr, by rw [bcells_of_ints l hl]; exact harr, by rw [he, hn]; simp, hw⟩

theorem runeB_enc {r : Int} (h : ¬ r < 128) : runeB r = (encI r).map fun x => UInt8.ofNat x.toNat := by unfold runeB; rw [if_neg h]; rfl

set_option maxHeartbeats 1000000 in
theorem zzEnc (r : Int) (w : World) (hr : -2147483648 ≤ r) (hr2 : r ≤ 2147483647) :
    Calls Tryd.prog 7 #[.int .i32 r] w (NewBytes w (runeB r)) := by
  rcases encI_cases r with h | h | h | h | h | h | h | h
  · obtain ⟨h0, h1⟩ := h
    go_enter Tryd.func7, Tryd.ntmps7
    go_wp2
    go_ret
    refine newBytes_ints [r % 256] (by simp; omega) (by unfold runeB; rw [if_pos (by omega)]; rfl) _ ?_ 1 rfl rfl rfl
    rw [u32_and255 r (by omega) (by omega)]
    simp only [List.map_cons, List.map_nil, List.cons.injEq, Value.int.injEq, true_and, and_true]
    omega
  · obtain ⟨h0, h1⟩ := h
    go_enter Tryd.func7, Tryd.ntmps7
    go_wp2
    go_ret
    refine newBytes_ints (encI r) (encI_byte r) (runeB_enc (by omega)) _ ?_ 2 (by rw [encI_two h0 h1]; rfl) rfl rfl
    rw [encI_two h0 h1, u32_and63 r (by omega) (by omega), u32_or192 _ (by omega) (by omega), u32_or128 _ (by omega) (by omega)]
    simp only [List.map_cons, List.map_nil, List.cons.injEq, Value.int.injEq, true_and, and_true]
    omega
  · obtain ⟨h0, h1⟩ := h
    go_enter Tryd.func7, Tryd.ntmps7
    go_wp2
    go_ret
    refine newBytes_ints (encI r) (encI_byte r) (runeB_enc (by omega)) _ ?_ 3 (by rw [encI_three (.inl ⟨h0, h1⟩)]; rfl) rfl rfl
    rw [encI_three (.inl ⟨h0, h1⟩), u32_and63 r (by omega) (by omega), u32_and63 (r / 64) (by omega) (by omega), u32_or224 _ (by omega) (by omega), u32_or128 _ (by omega) (by omega), u32_or128 _ (by omega) (by omega)]
    simp only [List.map_cons, List.map_nil, List.cons.injEq, Value.int.injEq, true_and, and_true]
    omega
  · obtain ⟨h0, h1⟩ := h
    go_enter Tryd.func7, Tryd.ntmps7
    go_wp2
    go_ret
    refine newBytes_ints (encI r) (encI_byte r) (runeB_enc (by omega)) _ ?_ 3 (by rw [encI_three (.inr ⟨h0, h1⟩)]; rfl) rfl rfl
    rw [encI_three (.inr ⟨h0, h1⟩), u32_and63 r (by omega) (by omega), u32_and63 (r / 64) (by omega) (by omega), u32_or224 _ (by omega) (by omega), u32_or128 _ (by omega) (by omega), u32_or128 _ (by omega) (by omega)]
    simp only [List.map_cons, List.map_nil, List.cons.injEq, Value.int.injEq, true_and, and_true]
    omega
  · obtain ⟨h0, h1⟩ := h
    go_enter Tryd.func7, Tryd.ntmps7
    go_wp2
    go_ret
    refine newBytes_ints (encI r) (encI_byte r) (runeB_enc (by omega)) _ ?_ 4 (by rw [encI_four h0 h1]; rfl) rfl rfl
    rw [encI_four h0 h1, u32_and63 r (by omega) (by omega), u32_and63 (r / 64) (by omega) (by omega), u32_and63 (r / 4096) (by omega) (by omega), u32_or240 _ (by omega) (by omega), u32_or128 _ (by omega) (by omega), u32_or128 _ (by omega) (by omega), u32_or128 _ (by omega) (by omega)]
    simp only [List.map_cons, List.map_nil, List.cons.injEq, Value.int.injEq, true_and, and_true]
    omega
  · have h0 := h
    go_enter Tryd.func7, Tryd.ntmps7
    go_wp2
    go_ret
    refine newBytes_ints [r % 256] (by simp; omega) (by unfold runeB; rw [if_pos (by omega)]; rfl) _ ?_ 1 rfl rfl rfl
    rw [u32_and255 (r % 4294967296) (by omega) (by omega)]
    simp only [List.map_cons, List.map_nil, List.cons.injEq, Value.int.injEq, true_and, and_true]
    omega
  · obtain ⟨h0, h1⟩ := h
    go_enter Tryd.func7, Tryd.ntmps7
    go_wp2
    go_ret
    exact newBytes_ints (encI r) (encI_byte r) (runeB_enc (by omega)) _ (by rw [encI_bad (by omega)]; rfl) 3 (by rw [encI_bad (by omega)]; rfl) rfl rfl
  · have h0 := h
    go_enter Tryd.func7, Tryd.ntmps7
    go_wp2
    go_ret
    exact newBytes_ints (encI r) (encI_byte r) (runeB_enc (by omega)) _ (by rw [encI_bad (by omega)]; rfl) 3 (by rw [encI_bad (by omega)]; rfl) rfl rfl

theorem conv_new {w : World} {bs : List UInt8} {arr : Array Value} (harr : arr.toList = bcells bs) :
    (convert 22 9 (.slice (some ⟨w.heap.size, 0, none⟩) bs.length bs.length)).run Tryd.prog (w.alloc (.cells arr 5)) = .ok (.string ⟨bs.toArray⟩) (w.alloc (.cells arr 5)) := by
  have hl : arr.size = bs.length := by rw [← Array.length_toList, harr, bcells_length]
  refine run_convert_bytes_back _ 22 9 5 ⟨w.heap.size, 0, none⟩ bs.length bs Tryd.underlying22 Tryd.underlying5 Tryd.underlying9 (bytes_of_row (fr := (0, 0)) (heap_alloc_new w _) ?_)
  rw [← hl, ← Array.length_toList, List.take_length, harr]
  rfl

theorem cat_bytes (a b : Array UInt8) : (⟨a⟩ ++ ⟨b⟩ : ByteArray) = ⟨a ++ b⟩ := by
  apply ByteArray.ext
  simp
theorem cat_bad (r : Int) : (⟨#[37, 33]⟩ ++ ⟨(runeB r).toArray⟩ ++ ⟨#[40, 66, 65, 68, 73, 78, 68, 69, 88, 41]⟩ : ByteArray) = ⟨(badText r).toArray⟩ := by
  rw [cat_bytes, cat_bytes]
  unfold badText
  simp
theorem cat_miss (r : Int) : (⟨#[37, 33]⟩ ++ ⟨(runeB r).toArray⟩ ++ ⟨#[40, 77, 73, 83, 83, 73, 78, 71, 41]⟩ : ByteArray) = ⟨(missText r).toArray⟩ := by
  rw [cat_bytes, cat_bytes]
  unfold missText
  simp

theorem i32_of_wf {a : Int} (h : (Lit.int .i32 a).wf = true) : -2147483648 ≤ a ∧ a ≤ 2147483647 := by
  have := bounds_i32 h
  omega
theorem maxl_of {w : World} (h : laidMetH Tryd.prog Rows.fnBadArgNumExactRow.laid w) : w.cell? ⟨1, 0, none⟩ = some (.int .i64 2147483647) := by
  rw [MakeChecks.laidMetH_plain _ _ _ (by kernel_rfl)] at h
  exact LawFrame.laid_int h (List.mem_cons_of_mem _ (List.mem_cons_self ..)) (by kernel_rfl) (by kernel_rfl) Tryd.underlying3

set_option maxHeartbeats 1000000 in
theorem exactWalk (r : Int) (w : World) (hr : -2147483648 ≤ r) (hr2 : r ≤ 2147483647) (hg1 : w.cell? ⟨1, 0, none⟩ = some (.int .i64 2147483647)) :
    Calls Tryd.prog 3 #[.int .i32 r] w fun e w' => e = .returned (.bool true) ∧ Below w.heap.size w w' := by
  have hlt : 1 < w.heap.size := World.block_lt_of_cell? w ⟨1, 0, none⟩ hg1
  go_enter Tryd.func3, Tryd.ntmps3
  go_wp2_with (fail)
  refine (zzEnc r w hr hr2).mono ?_
  rintro e w1 ⟨arr, harr, rfl, rfl⟩
  have hcv := conv_new (w := w) harr
  have hbel : Below w.heap.size w (w.alloc (.cells arr 5)) := (Below.refl _ _).alloc (Nat.le_refl _) _
  have hC := Lib.hid (zzBad r (w.alloc (.cells arr 5)) ((hbel.cell hlt).trans hg1) hr hr2)
  have hlr : (runeB r).length ≤ 4 := runeB_length r
  have hcat := cat_bad r
  clear harr hg1
  go_wp2_with (fail)
  refine hC.out.mono ?_
  rintro e w2 ⟨rfl, hb2⟩
  go_wp2
  go_ret
  exact ⟨rfl, hbel.trans (hb2.mono (by simp))⟩

theorem texts_ne (r : Int) : missText r ≠ badText r := by
  intro h
  have := congrArg List.length h
  simp [missText, badText] at this

set_option maxHeartbeats 1000000 in
theorem missWalk (r : Int) (w : World) (hr : -2147483648 ≤ r) (hr2 : r ≤ 2147483647) (hg1 : w.cell? ⟨1, 0, none⟩ = some (.int .i64 2147483647)) :
    Calls Tryd.prog 4 #[.int .i32 r] w fun e w' => e = .returned (.bool true) ∧ Below w.heap.size w w' := by
  have hlt : 1 < w.heap.size := World.block_lt_of_cell? w ⟨1, 0, none⟩ hg1
  go_enter Tryd.func4, Tryd.ntmps4
  go_wp2_with (fail)
  refine (zzEnc r w hr hr2).mono ?_
  rintro e w1 ⟨arr, harr, rfl, rfl⟩
  have hcv := conv_new (w := w) harr
  have hbel : Below w.heap.size w (w.alloc (.cells arr 5)) := (Below.refl _ _).alloc (Nat.le_refl _) _
  have hC := Lib.hid (zzMissing r (w.alloc (.cells arr 5)) ((hbel.cell hlt).trans hg1) hr hr2)
  have hlr : (runeB r).length ≤ 4 := runeB_length r
  have hcat := cat_miss r
  clear harr
  go_wp2_with (fail)
  refine hC.out.mono ?_
  rintro e w2 ⟨rfl, hb2⟩
  have hbel2 : Below w.heap.size w w2 := hbel.trans (hb2.mono (by simp))
  have hC2 := Lib.hid (zzBad r w2 ((hbel2.cell hlt).trans hg1) hr hr2)
  clear hC hg1 hcv hb2
  go_wp2_with (fail)
  refine hC2.out.mono ?_
  rintro e w3 ⟨rfl, hb3⟩
  have hbel3 : Below w.heap.size w w3 := hbel2.trans (hb3.mono hbel2.size)
  have hne : (missText r == badText r) = false := beq_eq_false_iff_ne.2 (texts_ne r)
  generalize missText r = tm at *
  generalize badText r = tb at *
  go_wp2
  go_ret
  exact ⟨rfl, hbel3⟩

def validB (r : Int) : Bool := decide (0 ≤ r ∧ r ≤ 1114111 ∧ ¬ (55296 ≤ r ∧ r ≤ 57343))

theorem validScalar (r : Int) (w : World) : Calls Tryd.prog 10 #[.int .i32 r] w fun e w' => e = .returned (.bool (validB r)) ∧ w = w' := by
  have fin : ∀ {x y : Bool}, x = y → Ending.returned (.bool x) = .returned (.bool y) := fun h => by rw [h]
  rcases encI_cases r with h | h | h | h | h | h | h | h
  all_goals
    first | obtain ⟨h0, h1⟩ := h | have h0 := h
    go_enter Tryd.func10, Tryd.ntmps10
    go_wp2
    go_ret
    refine ⟨fin ?_, rfl⟩
    unfold validB
    rw [Bool.eq_iff_iff]
    simp
    omega

theorem badText_inj {r s : Int} (hr : Scalar r) (hs : Scalar s) : (badText r == badText s) = (r == s) := by
  rw [Bool.eq_iff_iff, beq_iff_eq, beq_iff_eq]
  constructor
  · intro h
    unfold badText at h
    rw [List.append_assoc, List.append_assoc] at h
    have h1 := List.append_cancel_left h
    exact runeB_inj hr hs (List.append_cancel_right h1)
  · intro h; rw [h]

set_option maxHeartbeats 1000000 in
theorem injWalk (r s : Int) (w : World) (hr : -2147483648 ≤ r) (hr2 : r ≤ 2147483647) (hs : -2147483648 ≤ s) (hs2 : s ≤ 2147483647) (hg1 : w.cell? ⟨1, 0, none⟩ = some (.int .i64 2147483647)) :
    Calls Tryd.prog 5 #[.int .i32 r, .int .i32 s] w fun e w' => e = .returned (.bool true) ∧ Below w.heap.size w w' := by
  have hlt : 1 < w.heap.size := World.block_lt_of_cell? w ⟨1, 0, none⟩ hg1
  by_cases v1 : validB r = true
  · by_cases v2 : validB s = true
    · have e1 : Scalar r := by unfold validB at v1; have := of_decide_eq_true v1; exact this
      have e2 : Scalar s := by unfold validB at v2; have := of_decide_eq_true v2; exact this
      have hin := badText_inj e1 e2
      have hC := Lib.hid (zzBad r w hg1 hr hr2)
      clear e1 e2
      go_enter Tryd.func5, Tryd.ntmps5
      go_wp2_with ((go_at_call 10; refine (validScalar _ _).mono ?_; rintro e w' ⟨rfl, rfl⟩))
      refine hC.out.mono ?_
      rintro e w1 ⟨rfl, hb1⟩
      have hC2 := Lib.hid (zzBad s w1 ((hb1.cell hlt).trans hg1) hs hs2)
      clear hC hg1
      go_wp2_with (fail)
      refine hC2.out.mono ?_
      rintro e w2 ⟨rfl, hb2⟩
      go_wp2
      go_ret
      exact ⟨rfl, hb1.trans (hb2.mono hb1.size)⟩
    · have v2' : validB s = false := by simpa using v2
      clear v2
      go_enter Tryd.func5, Tryd.ntmps5
      go_wp2_with ((go_at_call 10; refine (validScalar _ _).mono ?_; rintro e w' ⟨rfl, rfl⟩))
      go_ret
      exact ⟨rfl, Below.refl _ _⟩
  · have v1' : validB r = false := by simpa using v1
    clear v1
    go_enter Tryd.func5, Tryd.ntmps5
    go_wp2_with ((go_at_call 10; refine (validScalar _ _).mono ?_; rintro e w' ⟨rfl, rfl⟩))
    go_ret
    exact ⟨rfl, Below.refl _ _⟩
end Go.Proofs.YtobmcifdnlnknaaDoor.Fm
namespace Go.Proofs.YtobmcifdnlnknaaDoor
open Go.Proofs.YtobmcifdnlnknaaDoor.Fm
theorem fnBadArgNumExact.walk (a0 : Int) (w : World) (w0 : (Lit.int .i32 a0).wf = true) (hL : laidMetH Tryd.prog Rows.fnBadArgNumExactRow.laid w) :
    Calls Tryd.prog 3 #[.int .i32 a0] w fun e w' => e = .returned (.bool true) ∧ RowKit.Below w.heap.size w w' :=
  exactWalk a0 w (i32_of_wf w0).1 (i32_of_wf w0).2 (maxl_of hL)
theorem fnMissingArgExact.walk (a0 : Int) (w : World) (w0 : (Lit.int .i32 a0).wf = true) (hL : laidMetH Tryd.prog Rows.fnMissingArgExactRow.laid w) :
    Calls Tryd.prog 4 #[.int .i32 a0] w fun e w' => e = .returned (.bool true) ∧ RowKit.Below w.heap.size w w' :=
  missWalk a0 w (i32_of_wf w0).1 (i32_of_wf w0).2 (maxl_of hL)
theorem fnBadArgNumInjective.walk (a0 : Int) (a1 : Int) (w : World) (w0 : (Lit.int .i32 a0).wf = true) (w1 : (Lit.int .i32 a1).wf = true) (hL : laidMetH Tryd.prog Rows.fnBadArgNumInjectiveRow.laid w) :
    Calls Tryd.prog 5 #[.int .i32 a0, .int .i32 a1] w fun e w' => e = .returned (.bool true) ∧ RowKit.Below w.heap.size w w' :=
  injWalk a0 a1 w (i32_of_wf w0).1 (i32_of_wf w0).2 (i32_of_wf w1).1 (i32_of_wf w1).2 (maxl_of hL)
end Go.Proofs.YtobmcifdnlnknaaDoor
