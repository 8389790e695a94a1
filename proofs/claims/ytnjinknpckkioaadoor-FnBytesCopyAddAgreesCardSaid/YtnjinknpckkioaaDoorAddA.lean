/- The law FnBytesCopyAddAgrees: its walk. -/
import Derived.Test.YtnjinknpckkioaaDoorAddR
import Derived.Test.YtnjinknpckkioaaDoorConcat
import Derived.Test.YtnjinknpckkioaaDoorAddC
namespace Go.Proofs.YtnjinknpckkioaaDoor.Fm
open Go.ChangeShapes Go.WideShapes Go.ChangeAt Go.RowKit Go.Fmt

set_option maxHeartbeats 1000000 in
theorem guardAA (p q : Option Addr) (l c l2 c2 : Nat) (w : World) (hl : l ≤ 140737488351232) (hs : l2 ≤ 140737488351232) :
    Calls Tryd.prog 12 #[.slice p l c, .slice q l2 c2] w fun e w' => e = .returned (.bool (decide (l + l2 ≤ 1048576))) ∧ w = w' := by
  by_cases h1 : l ≤ 1048576
  · by_cases h2 : l2 ≤ 1048576
    · by_cases h3 : l + l2 ≤ 1048576
      all_goals
        go_enter Tryd.func12, Tryd.ntmps12
        go_wp2
        go_ret
        exact ⟨ret_bool (by simp; omega), rfl⟩
    · go_enter Tryd.func12, Tryd.ntmps12
      go_wp2
      go_ret
      exact ⟨ret_bool (by simp; omega), rfl⟩
  · go_enter Tryd.func12, Tryd.ntmps12
    go_wp2
    go_ret
    exact ⟨ret_bool (by simp; omega), rfl⟩

theorem m_bop (a : Addr) (w : World) : (method 280 25 (.pointer (some a)) "BinaryOp").run Tryd.prog w = .ok (8, .pointer (some a)) w := by kernel_rfl

set_option maxRecDepth 100000 in
set_option maxHeartbeats 4000000 in
theorem aaMain (p q : Option Addr) (cap cap2 : Nat) (bs cs : List UInt8) (w : World) (a : Addr) (hr : RowAt w p bs.length bs) (hc : p = none → cap = 0) (hr2 : RowAt w q cs.length cs) (hc2 : q = none → cap2 = 0) (hs : bs.length + cs.length ≤ 1048576) 
    (hgi : w.cell? ⟨0, 0, none⟩ = some (.iface 55 (.pointer (some a)))) (hgm : w.cell? ⟨1, 0, none⟩ = some (.int .i64 2147483647)) :
    Calls Tryd.prog 5 #[.slice p bs.length cap, .slice q cs.length cap2] w fun e w' => e = .returned (.bool true) ∧ Below w.heap.size w w' := by
  have hm1 := m_string
  have hm2 := m_bop
  have HG := Lib.hid (decide_eq_true hs)
  have HR := Lib.hid hr
  have HR2 := Lib.hid hr2
  have HN := Lib.hid hc
  have HN2 := Lib.hid hc2
  have hgi0 := World.block_lt_of_cell? w _ hgi
  have hgm0 := World.block_lt_of_cell? w _ hgm
  clear hr hr2 hc hc2
  go_enter Tryd.func5, Tryd.ntmps5
  go_wp2_with (fail)
  refine (guardAA _ _ _ _ _ _ _ (by omega) (by omega)).mono ?_
  rintro e w' ⟨rfl, rfl⟩
  rw [HG.out]
  have HC := Lib.hid (zzClone p bs.length cap bs w HR.out (by omega) HN.out)
  go_wp2_with (fail)
  refine HC.out.mono ?_
  clear HC
  intro e w1 hcp
  obtain ⟨q1, c1, rfl, hO, hw1⟩ := clone_own hcp
  have sw1 := hw1.size
  clear hcp
  have HX1 := Lib.hid hO
  clear hO
  have HC := Lib.hid (zzClone q cs.length cap2 cs w1 (HR2.out.old hw1) (by omega) HN2.out)
  go_wp2_with (fail)
  refine HC.out.mono ?_
  clear HC
  intro e w2 hcp
  obtain ⟨q2, c2, rfl, hO, hw2⟩ := clone_own hcp
  have sw2 := hw2.size
  clear hcp
  have HY2 := Lib.hid hO
  have HX2 := Lib.hid (own_old HX1.out hw2)
  clear hO
  have HC := Lib.hid (zzClone q1 bs.length c1 bs w2 (RowAt.of_own HX2.out) (by omega) (own_nil HX2.out))
  go_wp2_with (fail)
  refine HC.out.mono ?_
  clear HC
  intro e w3 hcp
  obtain ⟨q3, c3, rfl, hO, hw3⟩ := clone_own hcp
  have sw3 := hw3.size
  clear hcp
  have HA3 := Lib.hid hO
  have HX3 := Lib.hid (own_old HX2.out hw3)
  have HY3 := Lib.hid (own_old HY2.out hw3)
  clear hO
  have HC := Lib.hid (zzClone q2 cs.length c2 cs w3 (RowAt.of_own HY3.out) (by omega) (own_nil HY3.out))
  go_wp2_with (fail)
  refine HC.out.mono ?_
  clear HC
  intro e w4 hcp
  obtain ⟨q4, c4, rfl, hO, hw4⟩ := clone_own hcp
  have sw4 := hw4.size
  clear hcp
  have HB4 := Lib.hid hO
  have HX4 := Lib.hid (own_old HX3.out hw4)
  have HY4 := Lib.hid (own_old HY3.out hw4)
  have HA4 := Lib.hid (own_old HA3.out hw4)
  clear hO
  have hb04 : Below w.heap.size w w4 := hw1.trans ((hw2.mono sw1).trans ((hw3.mono (Nat.le_trans sw1 sw2)).trans (hw4.mono (Nat.le_trans sw1 (Nat.le_trans sw2 sw3)))))
  have hgi4 := (hb04.cell hgi0).trans hgi
  have hgm4 := (hb04.cell hgm0).trans hgm
  have s04 := hb04.size
  clear hgi hgm
  obtain ⟨w5, hw5⟩ : ∃ x, x = w4.alloc (.cells #[.slice q1 bs.length c1] 29) := ⟨_, rfl⟩
  have hb5 : Below w4.heap.size w4 w5 := by rw [hw5]; exact (Below.refl _ _).alloc (Nat.le_refl _) _
  have hxc5 : w5.cell? ⟨w4.heap.size, 0, none⟩ = some (.slice q1 bs.length c1) := by rw [hw5]; simp
  have hz5 : w5.heap.size = w4.heap.size + 1 := by rw [hw5]; simp
  have HW5 := Lib.hid hw5
  clear hw5
  obtain ⟨w6, hw6⟩ : ∃ x, x = w5.alloc (.cells #[.slice q2 cs.length c2] 29) := ⟨_, rfl⟩
  have hb6 : Below w5.heap.size w5 w6 := by rw [hw6]; exact (Below.refl _ _).alloc (Nat.le_refl _) _
  have hxc6 := (hb6.cell (World.block_lt_of_cell? w5 _ hxc5)).trans hxc5
  have hyc6 : w6.cell? ⟨w4.heap.size + 1, 0, none⟩ = some (.slice q2 cs.length c2) := by rw [hw6, ← hz5]; simp
  have s6 := hb6.size
  have HW6 := Lib.hid hw6
  clear hw6
  have hb46 : Below w4.heap.size w4 w6 := hb5.trans (hb6.mono hb5.size)
  have HX6 := Lib.hid (own_old HX4.out hb46)
  have HY6 := Lib.hid (own_old HY4.out hb46)
  have HA6 := Lib.hid (own_old HA4.out hb46)
  have HB6 := Lib.hid (own_old HB4.out hb46)
  have hgm6 := (hb46.cell (Nat.lt_of_lt_of_le hgm0 s04)).trans hgm4
  have s46 := hb46.size
  have hb06 : Below w.heap.size w w6 := hb04.trans (hb46.mono s04)
  have hXl : ∀ k, (Value.slice q1 bs.length c1).ownBlock = some k → w.heap.size ≤ k ∧ k < w1.heap.size := HX1.out.lt
  have HZ5 := Lib.hid hz5
  clear hgi4 hgm4 hxc5 hz5
  go_wp2_with (fail)
  rw [← HW5.out, ← HW6.out]
  refine (bCopy w4.heap.size q1 c1 bs w6 ⟨hxc6, RowAt.of_own HX6.out, own_nil HX6.out⟩ (by omega)).mono ?_
  rintro e w7 ⟨C, p7, cap7, rfl, hC1, hC2, hC3, hC4, hb7⟩
  have s7 := hb7.size
  have hxc7 := (hb7.cell (World.block_lt_of_cell? w6 _ hxc6)).trans hxc6
  have hyc7 := (hb7.cell (World.block_lt_of_cell? w6 _ hyc6)).trans hyc6
  have hgm7 := (hb7.cell (World.block_lt_of_cell? w6 _ hgm6)).trans hgm6
  have hxl6 := World.block_lt_of_cell? w6 _ hxc6
  have hyl6 := World.block_lt_of_cell? w6 _ hyc6
  have hgl6 := World.block_lt_of_cell? w6 _ hgm6
  have HX7 := Lib.hid (own_old HX6.out hb7)
  have HY7 := Lib.hid (own_old HY6.out hb7)
  have HA7 := Lib.hid (own_old HA6.out hb7)
  have HB7 := Lib.hid (own_old HB6.out hb7)
  have hCl : ∀ k, (Value.slice p7 bs.length cap7).ownBlock = some k → w6.heap.size ≤ k ∧ k < w7.heap.size := hC4.lt
  clear hxc6 hyc6 hgm6
  have HP := Lib.hid (bopAdd C (w4.heap.size + 1) w6.heap.size p7 q2 cap7 c2 bs cs w7 hC3 hC4 hyc7 (RowAt.of_own HY7.out) (own_nil HY7.out) (by omega) s7 hgm7)
  clear hC1 hC2 hC3 hC4
  go_wp2_with (fail)
  refine HP.out.mono ?_
  clear HP
  rintro e w8 ⟨R1, q8, c8, rfl, hR8, hRc8, hRo8, hg8, hk8⟩
  have s8 := hg8.size
  have hlo : ∀ k, (Value.slice p7 bs.length cap7).ownBlock = some k → w6.heap.size ≤ k := fun k hk => (hCl k hk).1
  have hxc8 : w8.cell? ⟨w4.heap.size, 0, none⟩ = some (.slice q1 bs.length c1) := hg8.cell hxc7 (fun e => by have h : w6.heap.size ≤ w4.heap.size := hlo _ e.symm; have h2 : w4.heap.size < w6.heap.size := hxl6; omega)
  have hyc8 : w8.cell? ⟨w4.heap.size + 1, 0, none⟩ = some (.slice q2 cs.length c2) := hg8.cell hyc7 (fun e => by have h : w6.heap.size ≤ w4.heap.size + 1 := hlo _ e.symm; have h2 : w4.heap.size + 1 < w6.heap.size := hyl6; omega)
  have hgm8 : w8.cell? ⟨1, 0, none⟩ = some (.int .i64 2147483647) := hg8.cell hgm7 (fun e => by have h : w6.heap.size ≤ 1 := hlo _ e.symm; have h2 : 1 < w6.heap.size := hgl6; omega)
  have keep : ∀ {base n : Nat} {v : Value} {xs : List Value}, w7.ownsRow base 5 1 v n xs → (∀ k, v.ownBlock = some k → k < w6.heap.size) → w8.ownsRow base 5 1 v n xs := fun h hv =>
    ownsRow_below h fun k hk => hg8.block k (h.lt k hk).2 (fun e => by have h1 := hlo k e.symm; have h2 := hv k hk; omega)
  have HX8 := Lib.hid (keep HX7.out (fun k hk => (HX6.out.lt k hk).2))
  have HY8 := Lib.hid (keep HY7.out (fun k hk => (HY6.out.lt k hk).2))
  have HA8 := Lib.hid (keep HA7.out (fun k hk => (HA6.out.lt k hk).2))
  have HB8 := Lib.hid (keep HB7.out (fun k hk => (HB6.out.lt k hk).2))
  have HR8 := Lib.hid hRo8
  have HRC8 := Lib.hid hRc8
  have hb68 : Below w6.heap.size w6 w8 := (Below.grown hb7 hg8 s7 hlo)
  have hb08 : Below w.heap.size w w8 := hb06.trans (hb68.mono hb06.size)
  clear hg8 hk8 hRo8 hRc8 hxc7 hyc7 hgm7 hlo hCl keep
  go_wp2_with (fail)
  refine (sameBytes _ _ _ _ _ _ bs bs w8 (RowAt.of_own HX8.out) (RowAt.of_own HA8.out) (by omega)).mono ?_
  rintro e w9 ⟨rfl, hb9⟩
  rw [decide_eq_true (rfl : bs = bs)]
  have s9 := hb9.size
  have hxc9 := (hb9.cell (World.block_lt_of_cell? w8 _ hxc8)).trans hxc8
  have hyc9 := (hb9.cell (World.block_lt_of_cell? w8 _ hyc8)).trans hyc8
  have hgm9 := (hb9.cell (World.block_lt_of_cell? w8 _ hgm8)).trans hgm8
  have HRC9 := Lib.hid ((hb9.cell (World.block_lt_of_cell? w8 _ HRC8.out)).trans HRC8.out)
  have HX9 := Lib.hid (own_old HX8.out hb9)
  have HY9 := Lib.hid (own_old HY8.out hb9)
  have HA9 := Lib.hid (own_old HA8.out hb9)
  have HB9 := Lib.hid (own_old HB8.out hb9)
  have HR9 := Lib.hid (own_old HR8.out hb9)
  have hb09 : Below w.heap.size w w9 := hb08.trans (hb9.mono hb08.size)
  clear hxc8 hyc8 hgm8
  go_wp2_with (fail)
  refine (bopAdd w4.heap.size (w4.heap.size + 1) w.heap.size q1 q2 c1 c2 bs cs w9 hxc9 HX9.out hyc9 (RowAt.of_own HY9.out) (own_nil HY9.out) (by omega) hb09.size hgm9).mono ?_
  rintro e w10 ⟨R2, q10, c10, rfl, hR10, hRc10, hRo10, hg10, hk10⟩
  have hb10 : Below w.heap.size w w10 := hb09.grown hg10 hb09.size (fun k hk => (hXl k hk).1)
  have hR1c : w10.cell? ⟨R1, 0, none⟩ = some (.slice q8 (bs ++ cs).length c8) := hg10.cell HRC9.out (fun e => by have h : R1 < w1.heap.size := (hXl _ e.symm).2; omega)
  have HR10 := Lib.hid (own_kept HR9.out hg10 (fun k hk => by have h := (hXl k hk).2; omega))
  have HA10 := Lib.hid (own_kept HA9.out hg10 (fun k hk => Nat.lt_of_lt_of_le (hXl k hk).2 sw2))
  have HB10 := Lib.hid (own_kept HB9.out hg10 (fun k hk => by have h := (hXl k hk).2; omega))
  have HB1 := Lib.hid (show ByAt w10 R1 q8 c8 (bs ++ cs) from ⟨hR1c, RowAt.of_own HR10.out, own_nil HR10.out⟩)
  have HB2 := Lib.hid (show ByAt w10 R2 q10 c10 (bs ++ cs) from ⟨hRc10, RowAt.of_own hRo10, own_nil hRo10⟩)
  clear hg10 hk10 hRo10 hRc10 hR1c hxc9 hyc9 hgm9
  go_wp2_with (fail)
  refine (bString _ _ _ _ _ HB1.out).mono ?_
  rintro e w' ⟨rfl, rfl⟩
  go_wp2_with (fail)
  refine (bString _ _ _ _ _ HB2.out).mono ?_
  rintro e w' ⟨rfl, rfl⟩
  go_wp2_with (fail)
  refine (bString _ _ _ _ _ HB1.out).mono ?_
  rintro e w' ⟨rfl, rfl⟩
  go_wp2_with (fail)
  refine (isConcat q3 q4 c3 c4 bs cs w10 (RowAt.of_own HA10.out) (RowAt.of_own HB10.out) (by omega)).mono ?_
  rintro e w11 ⟨rfl, hb11⟩
  go_wp2
  go_ret
  exact ⟨rfl, hb10.trans (hb11.mono hb10.size)⟩

set_option maxRecDepth 100000 in
theorem aaLaw (p q : Option Addr) (cap cap2 : Nat) (bs cs : List UInt8) (w : World) (a : Addr) (hr : RowAt w p bs.length bs) (hc : p = none → cap = 0) (hr2 : RowAt w q cs.length cs) (hc2 : q = none → cap2 = 0) (hl1 : bs.length ≤ 140737488351232) (hl2 : cs.length ≤ 140737488351232)
    (hgi : w.cell? ⟨0, 0, none⟩ = some (.iface 55 (.pointer (some a)))) (hgm : w.cell? ⟨1, 0, none⟩ = some (.int .i64 2147483647)) :
    Calls Tryd.prog 5 #[.slice p bs.length cap, .slice q cs.length cap2] w fun e w' => e = .returned (.bool true) ∧ Below w.heap.size w w' := by
  by_cases hs : bs.length + cs.length ≤ 1048576
  · exact aaMain p q cap cap2 bs cs w a hr hc hr2 hc2 hs hgi hgm
  · have HG := Lib.hid (decide_eq_false hs)
    clear hr hc hr2 hc2 hgi hgm
    go_enter Tryd.func5, Tryd.ntmps5
    go_wp2_with (fail)
    refine (guardAA _ _ _ _ _ _ _ hl1 hl2).mono ?_
    rintro e w' ⟨rfl, rfl⟩
    rw [HG.out]
    go_wp2
    go_ret
    exact ⟨rfl, Below.refl _ _⟩
end Go.Proofs.YtnjinknpckkioaaDoor.Fm
namespace Go.Proofs.YtnjinknpckkioaaDoor
open Go.Proofs.YtnjinknpckkioaaDoor.Fm
theorem fnBytesCopyAddAgrees.walk (a0 : Option Addr) (len0 cap0 : Nat) (z0 : List Int) (a1 : Option Addr) (len1 cap1 : Nat) (z1 : List Int) (w : World) (w0 : LawFrame.IsRow .u8 1 w a0 len0 cap0 z0) (w1 : LawFrame.IsRow .u8 1 w a1 len1 cap1 z1)
    (hL : laidMetH Tryd.prog Rows.fnBytesCopyAddAgreesRow.laid w) :
    Calls Tryd.prog 5 #[.slice a0 len0 cap0, .slice a1 len1 cap1] w fun e w' => e = .returned (.bool true) ∧ RowKit.Below w.heap.size w w' := by
  obtain ⟨bs, hr, hc, _, hsz⟩ := Go.Fmt.rowAt_of w0
  obtain ⟨cs, hr2, hc2, _, hsz2⟩ := Go.Fmt.rowAt_of w1
  obtain rfl := hr.len
  obtain rfl := hr2.len
  obtain ⟨⟨a, hg⟩, hgm⟩ := sentinels hL
  exact aaLaw a0 a1 cap0 cap1 bs cs w a hr hc hr2 hc2 hsz hsz2 hg hgm
end Go.Proofs.YtnjinknpckkioaaDoor
