/- The printer's methods badArgNum and missingArg on a fresh printer: the text that each writes. -/
import Derived.Test.YtobmcifdnlnknaaDoorWriteRune
import Derived.Laws.BytesString
import Derived.StillTailTactics
namespace Go.Proofs.YtobmcifdnlnknaaDoor.Fm
open Go.ChangeShapes Go.WideShapes Go.ChangeAt Go.RowKit Go.Lib Go.Fmt

/-- What badArgNum writes; what missingArg writes. -/
def badText (r : Int) : List UInt8 := [37, 33] ++ runeB r ++ [40, 66, 65, 68, 73, 78, 68, 69, 88, 41]
def missText (r : Int) : List UInt8 := [37, 33] ++ runeB r ++ [40, 77, 73, 83, 83, 73, 78, 71, 41]

set_option maxHeartbeats 1000000 in
theorem ppWriteString (B base : Nat) (bs : List UInt8) (s : ByteArray) (w : World) (hb : Buf 5 w base ⟨B, 0, none⟩ bs) (hg1 : w.cell? ⟨1, 0, none⟩ = some (.int .i64 2147483647)) (hlen : bs.length + s.size ≤ 2147483647) :
    Calls Tryd.prog 16 #[.pointer (some ⟨B, 0, none⟩), .string s] w fun e w' => (∃ n, e = .returned (.tuple #[.int .i64 n, .nilIface])) ∧ Buf 5 w' base ⟨B, 0, none⟩ (bs ++ s.data.toList) ∧ Kept base ⟨B, 0, none⟩ w w' := by
  have hC := Lib.hid (writeString ⟨B, 0, none⟩ base bs s w hb hg1 hlen)
  go_enter Tryd.func16, Tryd.ntmps16
  go_wp2_with (fail)
  refine hC.out.mono ?_
  rintro e w' ⟨rfl, h1, h2⟩
  go_wp2
  go_ret2
  exact ⟨⟨_, rfl⟩, h1, h2⟩

set_option maxHeartbeats 1000000 in
theorem ppWriteRune (B base : Nat) (bs : List UInt8) (r : Int) (w : World) (hb : Buf 5 w base ⟨B, 0, none⟩ bs) (hg1 : w.cell? ⟨1, 0, none⟩ = some (.int .i64 2147483647)) (hlen : bs.length + 4 ≤ 2147483647)
    (hr : -2147483648 ≤ r) (hr2 : r ≤ 2147483647) :
    Calls Tryd.prog 17 #[.pointer (some ⟨B, 0, none⟩), .int .i32 r] w fun e w' => (∃ n, e = .returned (.tuple #[.int .i64 n, .nilIface])) ∧ Buf 5 w' base ⟨B, 0, none⟩ (bs ++ runeB r) ∧ Kept base ⟨B, 0, none⟩ w w' := by
  have hC := Lib.hid (writeRune ⟨B, 0, none⟩ base bs r w hb hg1 hlen hr hr2)
  go_enter Tryd.func17, Tryd.ntmps17
  go_wp2_with (fail)
  refine hC.out.mono ?_
  rintro e w' ⟨rfl, h1, h2⟩
  go_wp2_with ((go_at_call 20; refine (runeLen _ _).mono ?_; rintro e w2 ⟨rfl, rfl⟩))
  go_ret2
  exact ⟨⟨_, rfl⟩, h1, h2⟩

theorem maxl_kept {base : Nat} {a : Addr} {w w' : World} (hk : Kept base a w w') (hg1 : w.cell? ⟨1, 0, none⟩ = some (.int .i64 2147483647)) (hb : 1 < base) (hne : a.block ≠ 1) : w'.cell? ⟨1, 0, none⟩ = some (.int .i64 2147483647) :=
  (hk.cellAt hb (fun e => hne (by rw [← e]))).trans hg1

set_option maxHeartbeats 1000000 in
theorem badArgNum (B base : Nat) (r : Int) (w : World) (hb : Buf 5 w base ⟨B, 0, none⟩ []) (hg1 : w.cell? ⟨1, 0, none⟩ = some (.int .i64 2147483647)) (hB : 1 < B)
    (hr : -2147483648 ≤ r) (hr2 : r ≤ 2147483647) :
    Calls Tryd.prog 13 #[.pointer (some ⟨B, 0, none⟩), .int .i32 r] w fun e w' => e = .returned (.tuple #[]) ∧ Buf 5 w' base ⟨B, 0, none⟩ (badText r) ∧ Kept base ⟨B, 0, none⟩ w w' := by
  have hbase : B < base := hb.lt
  have hlr : (runeB r).length ≤ 4 := runeB_length r
  have hC1 := Lib.hid (ppWriteString B base [] ⟨#[37, 33]⟩ w hb hg1 (by show 0 + 2 ≤ 2147483647; omega))
  go_enter Tryd.func13, Tryd.ntmps13
  go_wp2_with (fail)
  refine hC1.out.mono ?_
  rintro e w1 ⟨⟨n1, rfl⟩, hb1, hk1⟩
  have hC2 := Lib.hid (ppWriteRune B base [37, 33] r w1 hb1 (maxl_kept hk1 hg1 (by omega) (by simp; omega)) (by simp) hr hr2)
  clear hC1
  go_wp2_with (fail)
  refine hC2.out.mono ?_
  rintro e w2 ⟨⟨n2, rfl⟩, hb2, hk2⟩
  have hk12 := hk1.trans hk2
  have hC3 := Lib.hid (ppWriteString B base ([37, 33] ++ runeB r) ⟨#[40, 66, 65, 68, 73, 78, 68, 69, 88, 41]⟩ w2 hb2 (maxl_kept hk12 hg1 (by omega) (by simp; omega)) (by rw [show (⟨#[40, 66, 65, 68, 73, 78, 68, 69, 88, 41]⟩ : ByteArray).size = 10 from rfl]; simp; omega))
  clear hC2 hk1 hk2 hb1
  go_wp2_with (fail)
  refine hC3.out.mono ?_
  rintro e w3 ⟨⟨n3, rfl⟩, hb3, hk3⟩
  go_wp2
  go_end0
  exact ⟨rfl, hb3, hk12.trans hk3⟩

set_option maxHeartbeats 1000000 in
theorem missingArg (B base : Nat) (r : Int) (w : World) (hb : Buf 5 w base ⟨B, 0, none⟩ []) (hg1 : w.cell? ⟨1, 0, none⟩ = some (.int .i64 2147483647)) (hB : 1 < B)
    (hr : -2147483648 ≤ r) (hr2 : r ≤ 2147483647) :
    Calls Tryd.prog 14 #[.pointer (some ⟨B, 0, none⟩), .int .i32 r] w fun e w' => e = .returned (.tuple #[]) ∧ Buf 5 w' base ⟨B, 0, none⟩ (missText r) ∧ Kept base ⟨B, 0, none⟩ w w' := by
  have hbase : B < base := hb.lt
  have hlr : (runeB r).length ≤ 4 := runeB_length r
  have hC1 := Lib.hid (ppWriteString B base [] ⟨#[37, 33]⟩ w hb hg1 (by show 0 + 2 ≤ 2147483647; omega))
  go_enter Tryd.func14, Tryd.ntmps14
  go_wp2_with (fail)
  refine hC1.out.mono ?_
  rintro e w1 ⟨⟨n1, rfl⟩, hb1, hk1⟩
  have hC2 := Lib.hid (ppWriteRune B base [37, 33] r w1 hb1 (maxl_kept hk1 hg1 (by omega) (by simp; omega)) (by simp) hr hr2)
  clear hC1
  go_wp2_with (fail)
  refine hC2.out.mono ?_
  rintro e w2 ⟨⟨n2, rfl⟩, hb2, hk2⟩
  have hk12 := hk1.trans hk2
  have hC3 := Lib.hid (ppWriteString B base ([37, 33] ++ runeB r) ⟨#[40, 77, 73, 83, 83, 73, 78, 71, 41]⟩ w2 hb2 (maxl_kept hk12 hg1 (by omega) (by simp; omega)) (by rw [show (⟨#[40, 77, 73, 83, 83, 73, 78, 71, 41]⟩ : ByteArray).size = 9 from rfl]; simp; omega))
  clear hC2 hk1 hk2 hb1
  go_wp2_with (fail)
  refine hC3.out.mono ?_
  rintro e w3 ⟨⟨n3, rfl⟩, hb3, hk3⟩
  go_wp2
  go_end0
  exact ⟨rfl, hb3, hk12.trans hk3⟩

theorem zeroPP : Tryd.zeroCells64[0]? = some (.slice none 0 0) := by kernel_rfl
theorem zeroPP' (h : 0 < Tryd.zeroCells64.size) : Tryd.zeroCells64[0] = .slice none 0 0 := Option.some.inj ((Array.getElem?_eq_getElem h).symm.trans zeroPP)

set_option maxHeartbeats 1000000 in
theorem fmtInit (w : World) :
    Calls Tryd.prog 12 #[.pointer (some ⟨w.heap.size, 2, none⟩), .pointer (some ⟨w.heap.size, 0, none⟩)] (w.alloc (.cells Tryd.zeroCells64 64)).drew fun e w' => e = .returned (.tuple #[]) ∧ Buf 5 w' (w.heap.size + 1) ⟨w.heap.size, 0, none⟩ [] ∧ Below w.heap.size w w' := by
  go_enter Tryd.func12, Tryd.ntmps12
  go_wp2
  go_end0
  go_wp2
  go_end0
  refine ⟨rfl, ⟨none, 0, ?_, ?_, World.ownsRow_nil _ _ _ _, Nat.le_refl _, by simp, Nat.lt_succ_self _, by simp⟩, ((Below.refl _ _).alloc (Nat.le_refl _) _).drew⟩
  · simp [zeroPP']
  · simp

set_option maxHeartbeats 1000000 in
theorem zzBad (r : Int) (w : World) (hg1 : w.cell? ⟨1, 0, none⟩ = some (.int .i64 2147483647)) (hr : -2147483648 ≤ r) (hr2 : r ≤ 2147483647) :
    Calls Tryd.prog 8 #[.int .i32 r] w fun e w' => e = .returned (.string ⟨(badText r).toArray⟩) ∧ Below w.heap.size w w' := by
  go_enter Tryd.func8, Tryd.ntmps8
  go_wp2
  go_still_tail 6, (by kernel_rfl)
  change wpList _ _ _ _ _ (w.alloc (.cells Tryd.zeroCells64 64)).drew
  go_wp2_with (fail)
  refine (fmtInit w).mono ?_
  rintro e w1 ⟨rfl, hb1, hbel1⟩
  have hlt : 1 < w.heap.size := World.block_lt_of_cell? w ⟨1, 0, none⟩ hg1
  have hC := Lib.hid (badArgNum w.heap.size (w.heap.size + 1) r w1 hb1 ((hbel1.cell hlt).trans hg1) hlt hr hr2)
  clear hg1
  go_wp2_with (fail)
  refine hC.out.mono ?_
  rintro e w2 ⟨rfl, ⟨p, cap, h1, h2, h3, h4, h5, h6, h7⟩, hk2⟩
  have hcv := conv_own (P := Tryd.prog) (src := 56) (dst := 9) _ rfl h3 Tryd.underlying56 Tryd.underlying5 Tryd.underlying9
  clear hC hb1
  go_wp2
  go_ret
  exact ⟨rfl, hbel1.trans (hk2.below (by omega) (Nat.le_refl _))⟩

set_option maxHeartbeats 1000000 in
theorem zzMissing (r : Int) (w : World) (hg1 : w.cell? ⟨1, 0, none⟩ = some (.int .i64 2147483647)) (hr : -2147483648 ≤ r) (hr2 : r ≤ 2147483647) :
    Calls Tryd.prog 9 #[.int .i32 r] w fun e w' => e = .returned (.string ⟨(missText r).toArray⟩) ∧ Below w.heap.size w w' := by
  go_enter Tryd.func9, Tryd.ntmps9
  go_wp2
  go_still_tail 6, (by kernel_rfl)
  change wpList _ _ _ _ _ (w.alloc (.cells Tryd.zeroCells64 64)).drew
  go_wp2_with (fail)
  refine (fmtInit w).mono ?_
  rintro e w1 ⟨rfl, hb1, hbel1⟩
  have hlt : 1 < w.heap.size := World.block_lt_of_cell? w ⟨1, 0, none⟩ hg1
  have hC := Lib.hid (missingArg w.heap.size (w.heap.size + 1) r w1 hb1 ((hbel1.cell hlt).trans hg1) hlt hr hr2)
  clear hg1
  go_wp2_with (fail)
  refine hC.out.mono ?_
  rintro e w2 ⟨rfl, ⟨p, cap, h1, h2, h3, h4, h5, h6, h7⟩, hk2⟩
  have hcv := conv_own (P := Tryd.prog) (src := 56) (dst := 9) _ rfl h3 Tryd.underlying56 Tryd.underlying5 Tryd.underlying9
  clear hC hb1
  go_wp2
  go_ret
  exact ⟨rfl, hbel1.trans (hk2.below (by omega) (Nat.le_refl _))⟩
end Go.Proofs.YtobmcifdnlnknaaDoor.Fm
