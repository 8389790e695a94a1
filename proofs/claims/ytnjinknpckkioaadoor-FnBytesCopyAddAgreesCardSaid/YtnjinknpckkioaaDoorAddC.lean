/- The law FnBytesAddConcat: its walk. -/
import Derived.Test.YtnjinknpckkioaaDoorAddR
import Derived.Test.YtnjinknpckkioaaDoorConcat
namespace Go.Proofs.YtnjinknpckkioaaDoor.Fm
open Go.ChangeShapes Go.WideShapes Go.ChangeAt Go.RowKit Go.Fmt

set_option maxHeartbeats 1000000 in
theorem guardAC (p q : Option Addr) (l c l2 c2 : Nat) (v2 v3 : Value) (w : World) (hl : l ≤ 140737488351232) (hs : l2 ≤ 140737488351232) :
    Calls Tryd.prog 10 #[.slice p l c, .slice q l2 c2, v2, v3] w fun e w' => e = .returned (.bool (decide (l + l2 ≤ 1048576))) ∧ w = w' := by
  by_cases h1 : l ≤ 1048576
  · by_cases h2 : l2 ≤ 1048576
    · by_cases h3 : l + l2 ≤ 1048576
      all_goals
        go_enter Tryd.func10, Tryd.ntmps10
        go_wp2
        go_ret
        exact ⟨ret_bool (by simp; omega), rfl⟩
    · go_enter Tryd.func10, Tryd.ntmps10
      go_wp2
      go_ret
      exact ⟨ret_bool (by simp; omega), rfl⟩
  · go_enter Tryd.func10, Tryd.ntmps10
    go_wp2
    go_ret
    exact ⟨ret_bool (by simp; omega), rfl⟩

theorem own_kept {w w' : World} {base n : Nat} {v : Value} {xs : List Value} {r : Option Nat} (h : w.ownsRow base 5 1 v n xs) (hg : w.grownBy w' r) (hr : ∀ k, r = some k → k < base) : w'.ownsRow base 5 1 v n xs :=
  ownsRow_below h fun k hk => hg.block k (h.lt k hk).2 (fun e => by have h1 := hr k e.symm; have h2 := (h.lt k hk).1; omega)

set_option maxRecDepth 100000 in
set_option maxHeartbeats 4000000 in
theorem acOAdd (p q : Option Addr) (cap cap2 : Nat) (bs cs : List UInt8) (w : World) (a : Addr) (hr : RowAt w p bs.length bs) (hc : p = none → cap = 0) (hr2 : RowAt w q cs.length cs) (hc2 : q = none → cap2 = 0) (hs : bs.length + cs.length ≤ 1048576) 
    (hgi : w.cell? ⟨0, 0, none⟩ = some (.iface 55 (.pointer (some a)))) (hgm : w.cell? ⟨1, 0, none⟩ = some (.int .i64 2147483647)) :
    Calls Tryd.prog 4 #[.slice p bs.length cap, .slice q cs.length cap2, .int .i64 11, .bool false] w fun e w' => e = .returned (.bool true) ∧ Below w.heap.size w w' := by
  have hm1 := m_string
  have hm4 := m_name
  have HG := Lib.hid (decide_eq_true hs)
  have HR := Lib.hid hr
  have HR2 := Lib.hid hr2
  have HN := Lib.hid hc
  have HN2 := Lib.hid hc2
  have hgi0 := World.block_lt_of_cell? w _ hgi
  have hgm0 := World.block_lt_of_cell? w _ hgm
  clear hr hr2 hc hc2
  go_enter Tryd.func4, Tryd.ntmps4
  go_wp2_with (fail)
  refine (guardAC _ _ _ _ _ _ _ _ _ (by omega) (by omega)).mono ?_
  rintro e w' ⟨rfl, rfl⟩
  rw [HG.out]
  have HC := Lib.hid (zzClone p bs.length cap bs w HR.out (by omega) HN.out)
  go_wp2_with (fail)
  refine HC.out.mono ?_
  clear HC
  intro e w1 hcp
  obtain ⟨q1, c1, rfl, hO, hw1⟩ := clone_own hcp
  have sw1 := hw1.size
  clear hcp
  have HX1 := Lib.hid hO
  clear hO
  have HC := Lib.hid (zzClone q cs.length cap2 cs w1 (HR2.out.old hw1) (by omega) HN2.out)
  go_wp2_with (fail)
  refine HC.out.mono ?_
  clear HC
  intro e w2 hcp
  obtain ⟨q2, c2, rfl, hO, hw2⟩ := clone_own hcp
  have sw2 := hw2.size
  clear hcp
  have HY2 := Lib.hid hO
  have HX2 := Lib.hid (own_old HX1.out hw2)
  clear hO
  have HC := Lib.hid (zzClone q1 bs.length c1 bs w2 (RowAt.of_own HX2.out) (by omega) (own_nil HX2.out))
  go_wp2_with (fail)
  refine HC.out.mono ?_
  clear HC
  intro e w3 hcp
  obtain ⟨q3, c3, rfl, hO, hw3⟩ := clone_own hcp
  have sw3 := hw3.size
  clear hcp
  have HA3 := Lib.hid hO
  have HX3 := Lib.hid (own_old HX2.out hw3)
  have HY3 := Lib.hid (own_old HY2.out hw3)
  clear hO
  have HC := Lib.hid (zzClone q2 cs.length c2 cs w3 (RowAt.of_own HY3.out) (by omega) (own_nil HY3.out))
  go_wp2_with (fail)
  refine HC.out.mono ?_
  clear HC
  intro e w4 hcp
  obtain ⟨q4, c4, rfl, hO, hw4⟩ := clone_own hcp
  have sw4 := hw4.size
  clear hcp
  have HB4 := Lib.hid hO
  have HX4 := Lib.hid (own_old HX3.out hw4)
  have HY4 := Lib.hid (own_old HY3.out hw4)
  have HA4 := Lib.hid (own_old HA3.out hw4)
  clear hO
  have hb04 : Below w.heap.size w w4 := hw1.trans ((hw2.mono sw1).trans ((hw3.mono (Nat.le_trans sw1 sw2)).trans (hw4.mono (Nat.le_trans sw1 (Nat.le_trans sw2 sw3)))))
  have hgi4 := (hb04.cell hgi0).trans hgi
  have hgm4 := (hb04.cell hgm0).trans hgm
  have s04 := hb04.size
  clear hgi hgm
  obtain ⟨w5, hw5⟩ : ∃ x, x = w4.alloc (.cells #[.slice q1 bs.length c1] 29) := ⟨_, rfl⟩
  have hb5 : Below w4.heap.size w4 w5 := by rw [hw5]; exact (Below.refl _ _).alloc (Nat.le_refl _) _
  have hxc5 : w5.cell? ⟨w4.heap.size, 0, none⟩ = some (.slice q1 bs.length c1) := by rw [hw5]; simp
  have hz5 : w5.heap.size = w4.heap.size + 1 := by rw [hw5]; simp
  have HW5 := Lib.hid hw5
  clear hw5
  have HX5 := Lib.hid (own_old HX4.out hb5)
  have HY5 := Lib.hid (own_old HY4.out hb5)
  have HA5 := Lib.hid (own_old HA4.out hb5)
  obtain ⟨w6, hw6⟩ : ∃ x, x = w5.alloc (.cells #[.slice q2 cs.length c2] 29) := ⟨_, rfl⟩
  have hb6 : Below w5.heap.size w5 w6 := by rw [hw6]; exact (Below.refl _ _).alloc (Nat.le_refl _) _
  have hxc6 := (hb6.cell (World.block_lt_of_cell? w5 _ hxc5)).trans hxc5
  have hyc6 : w6.cell? ⟨w4.heap.size + 1, 0, none⟩ = some (.slice q2 cs.length c2) := by rw [hw6, ← hz5]; simp
  have s6 := hb6.size
  have HW6 := Lib.hid hw6
  clear hw6
  have HX6 := Lib.hid (own_old HX5.out hb6)
  have HY6 := Lib.hid (own_old HY5.out hb6)
  have HA6 := Lib.hid (own_old HA5.out hb6)
  have HB6 := Lib.hid (own_old (own_old HB4.out hb5) hb6)
  have hb46 : Below w4.heap.size w4 w6 := hb5.trans (hb6.mono hb5.size)
  have hgi6 := (hb46.cell (Nat.lt_of_lt_of_le hgi0 s04)).trans hgi4
  have hgm6 := (hb46.cell (Nat.lt_of_lt_of_le hgm0 s04)).trans hgm4
  have s46 := hb46.size
  clear hgi4 hgm4 hxc5
  have HZ5 := Lib.hid hz5
  clear hz5
  go_wp2_with (fail)
  rw [← HW5.out, ← HW6.out]
  have hXl : ∀ k, (Value.slice q1 bs.length c1).ownBlock = some k → w.heap.size ≤ k ∧ k < w1.heap.size := HX1.out.lt
  have hb06 : Below w.heap.size w w6 := hb04.trans (hb46.mono s04)
  refine (bopAdd w4.heap.size (w4.heap.size + 1) w.heap.size q1 q2 c1 c2 bs cs w6 hxc6 HX6.out hyc6 (RowAt.of_own HY6.out) (own_nil HY6.out) (by omega) (Nat.le_trans s04 s46) hgm6).mono ?_
  rintro e w7 ⟨C, q7, c7, rfl, hC7, hcc7, hO7, hg7, hk7⟩
  have s7 := hg7.size
  have hxc7 : w7.cell? ⟨w4.heap.size, 0, none⟩ = some (.slice q1 bs.length c1) := hg7.cell hxc6 (fun e => by have h : w4.heap.size < w1.heap.size := (hXl _ e.symm).2; omega)
  have hyc7 : w7.cell? ⟨w4.heap.size + 1, 0, none⟩ = some (.slice q2 cs.length c2) := hg7.cell hyc6 (fun e => by have h : w4.heap.size + 1 < w1.heap.size := (hXl _ e.symm).2; omega)
  have HY7 := Lib.hid (own_kept HY6.out hg7 (fun k hk => (hXl k hk).2))
  have HX7 := Lib.hid hk7
  have HA7 := Lib.hid (own_kept HA6.out hg7 (fun k hk => Nat.lt_of_lt_of_le (hXl k hk).2 sw2))
  have HB7 := Lib.hid (own_kept HB6.out hg7 (fun k hk => by have h := (hXl k hk).2; omega))
  have HO7 := Lib.hid hO7
  have HC7 := Lib.hid hcc7
  have hb7 : Below w.heap.size w w7 := hb06.grown hg7 hb06.size (fun k hk => (hXl k hk).1)
  clear hg7 hk7 hO7 hcc7 hxc6 hyc6 hgi6 hgm6 hXl
  go_wp2_with (fail)
  refine (sameBytes _ _ _ _ _ _ bs bs w7 (RowAt.of_own HX7.out) (RowAt.of_own HA7.out) (by omega)).mono ?_
  rintro e w8 ⟨rfl, hb8⟩
  rw [decide_eq_true (rfl : bs = bs)]
  have hyc8 := (hb8.cell (World.block_lt_of_cell? w7 _ hyc7)).trans hyc7
  clear hxc7 hyc7
  go_wp2_with (fail)
  refine (sameBytes _ _ _ _ _ _ cs cs w8 ((RowAt.of_own HY7.out).old hb8) ((RowAt.of_own HB7.out).old hb8) (by omega)).mono ?_
  rintro e w9 ⟨rfl, hb9⟩
  rw [decide_eq_true (rfl : cs = cs)]
  have hb79 : Below w7.heap.size w7 w9 := hb8.trans (hb9.mono hb8.size)
  clear hyc8
  have hBC : ByAt w9 C q7 c7 (bs ++ cs) := ByAt.old ⟨HC7.out, RowAt.of_own HO7.out, own_nil HO7.out⟩ hb79
  have HBC := Lib.hid hBC
  clear hBC
  go_wp2_with ((go_at_call 31; refine (bName _ _).mono ?_; rintro e w' ⟨rfl, rfl⟩))
  refine (bString _ _ _ _ _ HBC.out).mono ?_
  rintro e w' ⟨rfl, rfl⟩
  go_wp2_with (fail)
  refine (isConcat q3 q4 c3 c4 bs cs w9 ((RowAt.of_own HA7.out).old hb79) ((RowAt.of_own HB7.out).old hb79) (by omega)).mono ?_
  rintro e w10 ⟨rfl, hb10⟩
  go_wp2
  go_ret
  exact ⟨rfl, (hb7.trans (hb79.mono hb7.size)).trans (hb10.mono (Nat.le_trans hb7.size hb79.size))⟩

set_option maxRecDepth 100000 in
set_option maxHeartbeats 4000000 in
theorem acONot (p q : Option Addr) (cap cap2 : Nat) (bs cs : List UInt8) (t : Int) (w : World) (a : Addr) (hr : RowAt w p bs.length bs) (hc : p = none → cap = 0) (hr2 : RowAt w q cs.length cs) (hc2 : q = none → cap2 = 0) (hs : bs.length + cs.length ≤ 1048576) (ht : t ≠ 11)
    (hgi : w.cell? ⟨0, 0, none⟩ = some (.iface 55 (.pointer (some a)))) (hgm : w.cell? ⟨1, 0, none⟩ = some (.int .i64 2147483647)) :
    Calls Tryd.prog 4 #[.slice p bs.length cap, .slice q cs.length cap2, .int .i64 t, .bool false] w fun e w' => e = .returned (.bool true) ∧ Below w.heap.size w w' := by
  have hq1 : (t != 11) = true := by simpa using ht
  have HT := Lib.hid ht
  have heq := eql_same
  clear ht
  have HG := Lib.hid (decide_eq_true hs)
  have HR := Lib.hid hr
  have HR2 := Lib.hid hr2
  have HN := Lib.hid hc
  have HN2 := Lib.hid hc2
  have hgi0 := World.block_lt_of_cell? w _ hgi
  have hgm0 := World.block_lt_of_cell? w _ hgm
  clear hr hr2 hc hc2
  go_enter Tryd.func4, Tryd.ntmps4
  go_wp2_with (fail)
  refine (guardAC _ _ _ _ _ _ _ _ _ (by omega) (by omega)).mono ?_
  rintro e w' ⟨rfl, rfl⟩
  rw [HG.out]
  have HC := Lib.hid (zzClone p bs.length cap bs w HR.out (by omega) HN.out)
  go_wp2_with (fail)
  refine HC.out.mono ?_
  clear HC
  intro e w1 hcp
  obtain ⟨q1, c1, rfl, hO, hw1⟩ := clone_own hcp
  have sw1 := hw1.size
  clear hcp
  have HX1 := Lib.hid hO
  clear hO
  have HC := Lib.hid (zzClone q cs.length cap2 cs w1 (HR2.out.old hw1) (by omega) HN2.out)
  go_wp2_with (fail)
  refine HC.out.mono ?_
  clear HC
  intro e w2 hcp
  obtain ⟨q2, c2, rfl, hO, hw2⟩ := clone_own hcp
  have sw2 := hw2.size
  clear hcp
  have HY2 := Lib.hid hO
  have HX2 := Lib.hid (own_old HX1.out hw2)
  clear hO
  have HC := Lib.hid (zzClone q1 bs.length c1 bs w2 (RowAt.of_own HX2.out) (by omega) (own_nil HX2.out))
  go_wp2_with (fail)
  refine HC.out.mono ?_
  clear HC
  intro e w3 hcp
  obtain ⟨q3, c3, rfl, hO, hw3⟩ := clone_own hcp
  have sw3 := hw3.size
  clear hcp
  have HA3 := Lib.hid hO
  have HX3 := Lib.hid (own_old HX2.out hw3)
  have HY3 := Lib.hid (own_old HY2.out hw3)
  clear hO
  have HC := Lib.hid (zzClone q2 cs.length c2 cs w3 (RowAt.of_own HY3.out) (by omega) (own_nil HY3.out))
  go_wp2_with (fail)
  refine HC.out.mono ?_
  clear HC
  intro e w4 hcp
  obtain ⟨q4, c4, rfl, hO, hw4⟩ := clone_own hcp
  have sw4 := hw4.size
  clear hcp
  have HB4 := Lib.hid hO
  have HX4 := Lib.hid (own_old HX3.out hw4)
  have HY4 := Lib.hid (own_old HY3.out hw4)
  have HA4 := Lib.hid (own_old HA3.out hw4)
  clear hO
  have hb04 : Below w.heap.size w w4 := hw1.trans ((hw2.mono sw1).trans ((hw3.mono (Nat.le_trans sw1 sw2)).trans (hw4.mono (Nat.le_trans sw1 (Nat.le_trans sw2 sw3)))))
  have hgi4 := (hb04.cell hgi0).trans hgi
  have hgm4 := (hb04.cell hgm0).trans hgm
  have s04 := hb04.size
  clear hgi hgm
  obtain ⟨w5, hw5⟩ : ∃ x, x = w4.alloc (.cells #[.slice q1 bs.length c1] 29) := ⟨_, rfl⟩
  have hb5 : Below w4.heap.size w4 w5 := by rw [hw5]; exact (Below.refl _ _).alloc (Nat.le_refl _) _
  have hxc5 : w5.cell? ⟨w4.heap.size, 0, none⟩ = some (.slice q1 bs.length c1) := by rw [hw5]; simp
  have hz5 : w5.heap.size = w4.heap.size + 1 := by rw [hw5]; simp
  have HW5 := Lib.hid hw5
  clear hw5
  have HX5 := Lib.hid (own_old HX4.out hb5)
  have HY5 := Lib.hid (own_old HY4.out hb5)
  have HA5 := Lib.hid (own_old HA4.out hb5)
  obtain ⟨w6, hw6⟩ : ∃ x, x = w5.alloc (.cells #[.slice q2 cs.length c2] 29) := ⟨_, rfl⟩
  have hb6 : Below w5.heap.size w5 w6 := by rw [hw6]; exact (Below.refl _ _).alloc (Nat.le_refl _) _
  have hxc6 := (hb6.cell (World.block_lt_of_cell? w5 _ hxc5)).trans hxc5
  have hyc6 : w6.cell? ⟨w4.heap.size + 1, 0, none⟩ = some (.slice q2 cs.length c2) := by rw [hw6, ← hz5]; simp
  have s6 := hb6.size
  have HW6 := Lib.hid hw6
  clear hw6
  have HX6 := Lib.hid (own_old HX5.out hb6)
  have HY6 := Lib.hid (own_old HY5.out hb6)
  have HA6 := Lib.hid (own_old HA5.out hb6)
  have HB6 := Lib.hid (own_old (own_old HB4.out hb5) hb6)
  have hb46 : Below w4.heap.size w4 w6 := hb5.trans (hb6.mono hb5.size)
  have hgi6 := (hb46.cell (Nat.lt_of_lt_of_le hgi0 s04)).trans hgi4
  have hgm6 := (hb46.cell (Nat.lt_of_lt_of_le hgm0 s04)).trans hgm4
  have s46 := hb46.size
  clear hgi4 hgm4 hxc5
  have HZ5 := Lib.hid hz5
  clear hz5
  go_wp2_with (fail)
  rw [← HW5.out, ← HW6.out]
  have hXl : ∀ k, (Value.slice q1 bs.length c1).ownBlock = some k → w.heap.size ≤ k ∧ k < w1.heap.size := HX1.out.lt
  have hb06 : Below w.heap.size w w6 := hb04.trans (hb46.mono s04)
  refine (bopOther _ _ t a w6 HT.out hgi6).mono ?_
  rintro e w7 ⟨rfl, n7, rfl⟩
  have hb67 : Below w6.heap.size w6 (w6.drewN n7) := below_drewN (Below.refl _ _) _
  generalize w6.drewN n7 = w7 at hb67 ⊢
  have hb7 : Below w.heap.size w w7 := hb06.trans (hb67.mono hb06.size)
  have hxc7 := (hb67.cell (World.block_lt_of_cell? w6 _ hxc6)).trans hxc6
  have hyc7 := (hb67.cell (World.block_lt_of_cell? w6 _ hyc6)).trans hyc6
  have hgi7 := (hb67.cell (World.block_lt_of_cell? w6 _ hgi6)).trans hgi6
  have HX7 := Lib.hid (own_old HX6.out hb67)
  have HY7 := Lib.hid (own_old HY6.out hb67)
  have HA7 := Lib.hid (own_old HA6.out hb67)
  have HB7 := Lib.hid (own_old HB6.out hb67)
  clear hxc6 hyc6 hgi6 hgm6 hXl
  go_wp2_with (fail)
  refine (sameBytes _ _ _ _ _ _ bs bs w7 (RowAt.of_own HX7.out) (RowAt.of_own HA7.out) (by omega)).mono ?_
  rintro e w8 ⟨rfl, hb8⟩
  rw [decide_eq_true (rfl : bs = bs)]
  have hyc8 := (hb8.cell (World.block_lt_of_cell? w7 _ hyc7)).trans hyc7
  clear hxc7 hyc7
  go_wp2_with (fail)
  refine (sameBytes _ _ _ _ _ _ cs cs w8 ((RowAt.of_own HY7.out).old hb8) ((RowAt.of_own HB7.out).old hb8) (by omega)).mono ?_
  rintro e w9 ⟨rfl, hb9⟩
  rw [decide_eq_true (rfl : cs = cs)]
  have hb79 : Below w7.heap.size w7 w9 := hb8.trans (hb9.mono hb8.size)
  clear hyc8
  have hgi9 := (hb79.cell (World.block_lt_of_cell? w7 _ hgi7)).trans hgi7
  go_wp2
  go_ret
  exact ⟨rfl, hb7.trans (hb79.mono hb7.size)⟩

set_option maxRecDepth 100000 in
set_option maxHeartbeats 4000000 in
theorem acSAdd (p q : Option Addr) (cap cap2 : Nat) (bs cs : List UInt8) (w : World) (a : Addr) (hr : RowAt w p bs.length bs) (hc : p = none → cap = 0) (hr2 : RowAt w q cs.length cs) (hc2 : q = none → cap2 = 0) (hs : bs.length + cs.length ≤ 1048576) 
    (hgi : w.cell? ⟨0, 0, none⟩ = some (.iface 55 (.pointer (some a)))) (hgm : w.cell? ⟨1, 0, none⟩ = some (.int .i64 2147483647)) :
    Calls Tryd.prog 4 #[.slice p bs.length cap, .slice q cs.length cap2, .int .i64 11, .bool true] w fun e w' => e = .returned (.bool true) ∧ Below w.heap.size w w' := by
  have hm1 := m_string
  have hm4 := m_name
  have HG := Lib.hid (decide_eq_true hs)
  have HR := Lib.hid hr
  have HR2 := Lib.hid hr2
  have HN := Lib.hid hc
  have HN2 := Lib.hid hc2
  have hgi0 := World.block_lt_of_cell? w _ hgi
  have hgm0 := World.block_lt_of_cell? w _ hgm
  clear hr hr2 hc hc2
  go_enter Tryd.func4, Tryd.ntmps4
  go_wp2_with (fail)
  refine (guardAC _ _ _ _ _ _ _ _ _ (by omega) (by omega)).mono ?_
  rintro e w' ⟨rfl, rfl⟩
  rw [HG.out]
  have HC := Lib.hid (zzClone p bs.length cap bs w HR.out (by omega) HN.out)
  go_wp2_with (fail)
  refine HC.out.mono ?_
  clear HC
  intro e w1 hcp
  obtain ⟨q1, c1, rfl, hO, hw1⟩ := clone_own hcp
  have sw1 := hw1.size
  clear hcp
  have HX1 := Lib.hid hO
  clear hO
  have HC := Lib.hid (zzClone q cs.length cap2 cs w1 (HR2.out.old hw1) (by omega) HN2.out)
  go_wp2_with (fail)
  refine HC.out.mono ?_
  clear HC
  intro e w2 hcp
  obtain ⟨q2, c2, rfl, hO, hw2⟩ := clone_own hcp
  have sw2 := hw2.size
  clear hcp
  have HY2 := Lib.hid hO
  have HX2 := Lib.hid (own_old HX1.out hw2)
  clear hO
  have HC := Lib.hid (zzClone q1 bs.length c1 bs w2 (RowAt.of_own HX2.out) (by omega) (own_nil HX2.out))
  go_wp2_with (fail)
  refine HC.out.mono ?_
  clear HC
  intro e w3 hcp
  obtain ⟨q3, c3, rfl, hO, hw3⟩ := clone_own hcp
  have sw3 := hw3.size
  clear hcp
  have HA3 := Lib.hid hO
  have HX3 := Lib.hid (own_old HX2.out hw3)
  have HY3 := Lib.hid (own_old HY2.out hw3)
  clear hO
  have HC := Lib.hid (zzClone q2 cs.length c2 cs w3 (RowAt.of_own HY3.out) (by omega) (own_nil HY3.out))
  go_wp2_with (fail)
  refine HC.out.mono ?_
  clear HC
  intro e w4 hcp
  obtain ⟨q4, c4, rfl, hO, hw4⟩ := clone_own hcp
  have sw4 := hw4.size
  clear hcp
  have HB4 := Lib.hid hO
  have HX4 := Lib.hid (own_old HX3.out hw4)
  have HY4 := Lib.hid (own_old HY3.out hw4)
  have HA4 := Lib.hid (own_old HA3.out hw4)
  clear hO
  have hb04 : Below w.heap.size w w4 := hw1.trans ((hw2.mono sw1).trans ((hw3.mono (Nat.le_trans sw1 sw2)).trans (hw4.mono (Nat.le_trans sw1 (Nat.le_trans sw2 sw3)))))
  have hgi4 := (hb04.cell hgi0).trans hgi
  have hgm4 := (hb04.cell hgm0).trans hgm
  have s04 := hb04.size
  clear hgi hgm
  obtain ⟨w5, hw5⟩ : ∃ x, x = w4.alloc (.cells #[.slice q1 bs.length c1] 29) := ⟨_, rfl⟩
  have hb5 : Below w4.heap.size w4 w5 := by rw [hw5]; exact (Below.refl _ _).alloc (Nat.le_refl _) _
  have hxc5 : w5.cell? ⟨w4.heap.size, 0, none⟩ = some (.slice q1 bs.length c1) := by rw [hw5]; simp
  have hz5 : w5.heap.size = w4.heap.size + 1 := by rw [hw5]; simp
  have HW5 := Lib.hid hw5
  clear hw5
  have HX5 := Lib.hid (own_old HX4.out hb5)
  have HY5 := Lib.hid (own_old HY4.out hb5)
  have HA5 := Lib.hid (own_old HA4.out hb5)
  have HC := Lib.hid (zzClone q1 bs.length c1 bs w5 (RowAt.of_own HX5.out) (by omega) (own_nil HX5.out))
  have HZ5 := Lib.hid hz5
  clear hz5
  go_wp2_with (fail)
  rw [← HW5.out]
  refine HC.out.mono ?_
  clear HC
  intro e w6 hcp
  obtain ⟨q6, c6, rfl, hO, hb6⟩ := clone_own hcp
  have s6 := hb6.size
  have hz5 := HZ5.out
  have HB6 := Lib.hid hO
  clear hcp hO
  have hxc6 := (hb6.cell (World.block_lt_of_cell? w5 _ hxc5)).trans hxc5
  have hyc6 := hxc6
  have h5l := World.block_lt_of_cell? w5 _ hxc5
  have HX6 := Lib.hid (own_old HX5.out hb6)
  have HY6 := HX6
  have HA6 := Lib.hid (own_old HA5.out hb6)
  have hb46 : Below w4.heap.size w4 w6 := hb5.trans (hb6.mono hb5.size)
  have hgi6 := (hb46.cell (Nat.lt_of_lt_of_le hgi0 s04)).trans hgi4
  have hgm6 := (hb46.cell (Nat.lt_of_lt_of_le hgm0 s04)).trans hgm4
  have s46 := hb46.size
  clear hgi4 hgm4 hxc5
  have HZ5 := Lib.hid hz5
  clear hz5
  go_wp2_with (fail)
  have hXl : ∀ k, (Value.slice q1 bs.length c1).ownBlock = some k → w.heap.size ≤ k ∧ k < w1.heap.size := HX1.out.lt
  have hb06 : Below w.heap.size w w6 := hb04.trans (hb46.mono s04)
  refine (bopAdd w4.heap.size w4.heap.size w.heap.size q1 q1 c1 c1 bs bs w6 hxc6 HX6.out hyc6 (RowAt.of_own HY6.out) (own_nil HY6.out) (by omega) (Nat.le_trans s04 s46) hgm6).mono ?_
  rintro e w7 ⟨C, q7, c7, rfl, hC7, hcc7, hO7, hg7, hk7⟩
  have s7 := hg7.size
  have hxc7 : w7.cell? ⟨w4.heap.size, 0, none⟩ = some (.slice q1 bs.length c1) := hg7.cell hxc6 (fun e => by have h : w4.heap.size < w1.heap.size := (hXl _ e.symm).2; omega)
  have hyc7 := hxc7
  have HY7 := Lib.hid hk7
  have HX7 := Lib.hid hk7
  have HA7 := Lib.hid (own_kept HA6.out hg7 (fun k hk => Nat.lt_of_lt_of_le (hXl k hk).2 sw2))
  have HB7 := Lib.hid (own_kept HB6.out hg7 (fun k hk => by have h := (hXl k hk).2; omega))
  have HO7 := Lib.hid hO7
  have HC7 := Lib.hid hcc7
  have hb7 : Below w.heap.size w w7 := hb06.grown hg7 hb06.size (fun k hk => (hXl k hk).1)
  clear hg7 hk7 hO7 hcc7 hxc6 hyc6 hgi6 hgm6 hXl
  go_wp2_with (fail)
  refine (sameBytes _ _ _ _ _ _ bs bs w7 (RowAt.of_own HX7.out) (RowAt.of_own HA7.out) (by omega)).mono ?_
  rintro e w8 ⟨rfl, hb8⟩
  rw [decide_eq_true (rfl : bs = bs)]
  have hyc8 := (hb8.cell (World.block_lt_of_cell? w7 _ hyc7)).trans hyc7
  clear hxc7 hyc7
  go_wp2_with (fail)
  refine (sameBytes _ _ _ _ _ _ bs bs w8 ((RowAt.of_own HY7.out).old hb8) ((RowAt.of_own HB7.out).old hb8) (by omega)).mono ?_
  rintro e w9 ⟨rfl, hb9⟩
  rw [decide_eq_true (rfl : bs = bs)]
  have hb79 : Below w7.heap.size w7 w9 := hb8.trans (hb9.mono hb8.size)
  clear hyc8
  have hBC : ByAt w9 C q7 c7 (bs ++ bs) := ByAt.old ⟨HC7.out, RowAt.of_own HO7.out, own_nil HO7.out⟩ hb79
  have HBC := Lib.hid hBC
  clear hBC
  go_wp2_with ((go_at_call 31; refine (bName _ _).mono ?_; rintro e w' ⟨rfl, rfl⟩))
  refine (bString _ _ _ _ _ HBC.out).mono ?_
  rintro e w' ⟨rfl, rfl⟩
  go_wp2_with (fail)
  refine (isConcat q3 q6 c3 c6 bs bs w9 ((RowAt.of_own HA7.out).old hb79) ((RowAt.of_own HB7.out).old hb79) (by omega)).mono ?_
  rintro e w10 ⟨rfl, hb10⟩
  go_wp2
  go_ret
  exact ⟨rfl, (hb7.trans (hb79.mono hb7.size)).trans (hb10.mono (Nat.le_trans hb7.size hb79.size))⟩

set_option maxRecDepth 100000 in
set_option maxHeartbeats 4000000 in
theorem acSNot (p q : Option Addr) (cap cap2 : Nat) (bs cs : List UInt8) (t : Int) (w : World) (a : Addr) (hr : RowAt w p bs.length bs) (hc : p = none → cap = 0) (hr2 : RowAt w q cs.length cs) (hc2 : q = none → cap2 = 0) (hs : bs.length + cs.length ≤ 1048576) (ht : t ≠ 11)
    (hgi : w.cell? ⟨0, 0, none⟩ = some (.iface 55 (.pointer (some a)))) (hgm : w.cell? ⟨1, 0, none⟩ = some (.int .i64 2147483647)) :
    Calls Tryd.prog 4 #[.slice p bs.length cap, .slice q cs.length cap2, .int .i64 t, .bool true] w fun e w' => e = .returned (.bool true) ∧ Below w.heap.size w w' := by
  have hq1 : (t != 11) = true := by simpa using ht
  have HT := Lib.hid ht
  have heq := eql_same
  clear ht
  have HG := Lib.hid (decide_eq_true hs)
  have HR := Lib.hid hr
  have HR2 := Lib.hid hr2
  have HN := Lib.hid hc
  have HN2 := Lib.hid hc2
  have hgi0 := World.block_lt_of_cell? w _ hgi
  have hgm0 := World.block_lt_of_cell? w _ hgm
  clear hr hr2 hc hc2
  go_enter Tryd.func4, Tryd.ntmps4
  go_wp2_with (fail)
  refine (guardAC _ _ _ _ _ _ _ _ _ (by omega) (by omega)).mono ?_
  rintro e w' ⟨rfl, rfl⟩
  rw [HG.out]
  have HC := Lib.hid (zzClone p bs.length cap bs w HR.out (by omega) HN.out)
  go_wp2_with (fail)
  refine HC.out.mono ?_
  clear HC
  intro e w1 hcp
  obtain ⟨q1, c1, rfl, hO, hw1⟩ := clone_own hcp
  have sw1 := hw1.size
  clear hcp
  have HX1 := Lib.hid hO
  clear hO
  have HC := Lib.hid (zzClone q cs.length cap2 cs w1 (HR2.out.old hw1) (by omega) HN2.out)
  go_wp2_with (fail)
  refine HC.out.mono ?_
  clear HC
  intro e w2 hcp
  obtain ⟨q2, c2, rfl, hO, hw2⟩ := clone_own hcp
  have sw2 := hw2.size
  clear hcp
  have HY2 := Lib.hid hO
  have HX2 := Lib.hid (own_old HX1.out hw2)
  clear hO
  have HC := Lib.hid (zzClone q1 bs.length c1 bs w2 (RowAt.of_own HX2.out) (by omega) (own_nil HX2.out))
  go_wp2_with (fail)
  refine HC.out.mono ?_
  clear HC
  intro e w3 hcp
  obtain ⟨q3, c3, rfl, hO, hw3⟩ := clone_own hcp
  have sw3 := hw3.size
  clear hcp
  have HA3 := Lib.hid hO
  have HX3 := Lib.hid (own_old HX2.out hw3)
  have HY3 := Lib.hid (own_old HY2.out hw3)
  clear hO
  have HC := Lib.hid (zzClone q2 cs.length c2 cs w3 (RowAt.of_own HY3.out) (by omega) (own_nil HY3.out))
  go_wp2_with (fail)
  refine HC.out.mono ?_
  clear HC
  intro e w4 hcp
  obtain ⟨q4, c4, rfl, hO, hw4⟩ := clone_own hcp
  have sw4 := hw4.size
  clear hcp
  have HB4 := Lib.hid hO
  have HX4 := Lib.hid (own_old HX3.out hw4)
  have HY4 := Lib.hid (own_old HY3.out hw4)
  have HA4 := Lib.hid (own_old HA3.out hw4)
  clear hO
  have hb04 : Below w.heap.size w w4 := hw1.trans ((hw2.mono sw1).trans ((hw3.mono (Nat.le_trans sw1 sw2)).trans (hw4.mono (Nat.le_trans sw1 (Nat.le_trans sw2 sw3)))))
  have hgi4 := (hb04.cell hgi0).trans hgi
  have hgm4 := (hb04.cell hgm0).trans hgm
  have s04 := hb04.size
  clear hgi hgm
  obtain ⟨w5, hw5⟩ : ∃ x, x = w4.alloc (.cells #[.slice q1 bs.length c1] 29) := ⟨_, rfl⟩
  have hb5 : Below w4.heap.size w4 w5 := by rw [hw5]; exact (Below.refl _ _).alloc (Nat.le_refl _) _
  have hxc5 : w5.cell? ⟨w4.heap.size, 0, none⟩ = some (.slice q1 bs.length c1) := by rw [hw5]; simp
  have hz5 : w5.heap.size = w4.heap.size + 1 := by rw [hw5]; simp
  have HW5 := Lib.hid hw5
  clear hw5
  have HX5 := Lib.hid (own_old HX4.out hb5)
  have HY5 := Lib.hid (own_old HY4.out hb5)
  have HA5 := Lib.hid (own_old HA4.out hb5)
  have HC := Lib.hid (zzClone q1 bs.length c1 bs w5 (RowAt.of_own HX5.out) (by omega) (own_nil HX5.out))
  have HZ5 := Lib.hid hz5
  clear hz5
  go_wp2_with (fail)
  rw [← HW5.out]
  refine HC.out.mono ?_
  clear HC
  intro e w6 hcp
  obtain ⟨q6, c6, rfl, hO, hb6⟩ := clone_own hcp
  have s6 := hb6.size
  have hz5 := HZ5.out
  have HB6 := Lib.hid hO
  clear hcp hO
  have hxc6 := (hb6.cell (World.block_lt_of_cell? w5 _ hxc5)).trans hxc5
  have hyc6 := hxc6
  have h5l := World.block_lt_of_cell? w5 _ hxc5
  have HX6 := Lib.hid (own_old HX5.out hb6)
  have HY6 := HX6
  have HA6 := Lib.hid (own_old HA5.out hb6)
  have hb46 : Below w4.heap.size w4 w6 := hb5.trans (hb6.mono hb5.size)
  have hgi6 := (hb46.cell (Nat.lt_of_lt_of_le hgi0 s04)).trans hgi4
  have hgm6 := (hb46.cell (Nat.lt_of_lt_of_le hgm0 s04)).trans hgm4
  have s46 := hb46.size
  clear hgi4 hgm4 hxc5
  have HZ5 := Lib.hid hz5
  clear hz5
  go_wp2_with (fail)
  have hXl : ∀ k, (Value.slice q1 bs.length c1).ownBlock = some k → w.heap.size ≤ k ∧ k < w1.heap.size := HX1.out.lt
  have hb06 : Below w.heap.size w w6 := hb04.trans (hb46.mono s04)
  refine (bopOther _ _ t a w6 HT.out hgi6).mono ?_
  rintro e w7 ⟨rfl, n7, rfl⟩
  have hb67 : Below w6.heap.size w6 (w6.drewN n7) := below_drewN (Below.refl _ _) _
  generalize w6.drewN n7 = w7 at hb67 ⊢
  have hb7 : Below w.heap.size w w7 := hb06.trans (hb67.mono hb06.size)
  have hxc7 := (hb67.cell (World.block_lt_of_cell? w6 _ hxc6)).trans hxc6
  have hyc7 := (hb67.cell (World.block_lt_of_cell? w6 _ hyc6)).trans hyc6
  have hgi7 := (hb67.cell (World.block_lt_of_cell? w6 _ hgi6)).trans hgi6
  have HX7 := Lib.hid (own_old HX6.out hb67)
  have HY7 := Lib.hid (own_old HY6.out hb67)
  have HA7 := Lib.hid (own_old HA6.out hb67)
  have HB7 := Lib.hid (own_old HB6.out hb67)
  clear hxc6 hyc6 hgi6 hgm6 hXl
  go_wp2_with (fail)
  refine (sameBytes _ _ _ _ _ _ bs bs w7 (RowAt.of_own HX7.out) (RowAt.of_own HA7.out) (by omega)).mono ?_
  rintro e w8 ⟨rfl, hb8⟩
  rw [decide_eq_true (rfl : bs = bs)]
  have hyc8 := (hb8.cell (World.block_lt_of_cell? w7 _ hyc7)).trans hyc7
  clear hxc7 hyc7
  go_wp2_with (fail)
  refine (sameBytes _ _ _ _ _ _ bs bs w8 ((RowAt.of_own HY7.out).old hb8) ((RowAt.of_own HB7.out).old hb8) (by omega)).mono ?_
  rintro e w9 ⟨rfl, hb9⟩
  rw [decide_eq_true (rfl : bs = bs)]
  have hb79 : Below w7.heap.size w7 w9 := hb8.trans (hb9.mono hb8.size)
  clear hyc8
  have hgi9 := (hb79.cell (World.block_lt_of_cell? w7 _ hgi7)).trans hgi7
  go_wp2
  go_ret
  exact ⟨rfl, hb7.trans (hb79.mono hb7.size)⟩

set_option maxRecDepth 100000 in
theorem acLaw (p q : Option Addr) (cap cap2 : Nat) (bs cs : List UInt8) (t : Int) (self : Bool) (w : World) (a : Addr) (hr : RowAt w p bs.length bs) (hc : p = none → cap = 0) (hr2 : RowAt w q cs.length cs) (hc2 : q = none → cap2 = 0) (hl1 : bs.length ≤ 140737488351232) (hl2 : cs.length ≤ 140737488351232)
    (hgi : w.cell? ⟨0, 0, none⟩ = some (.iface 55 (.pointer (some a)))) (hgm : w.cell? ⟨1, 0, none⟩ = some (.int .i64 2147483647)) :
    Calls Tryd.prog 4 #[.slice p bs.length cap, .slice q cs.length cap2, .int .i64 t, .bool self] w fun e w' => e = .returned (.bool true) ∧ Below w.heap.size w w' := by
  by_cases hs : bs.length + cs.length ≤ 1048576
  · by_cases ht : t = 11
    · subst ht
      cases self
      · exact acOAdd p q cap cap2 bs cs w a hr hc hr2 hc2 hs hgi hgm
      · exact acSAdd p q cap cap2 bs cs w a hr hc hr2 hc2 hs hgi hgm
    · cases self
      · exact acONot p q cap cap2 bs cs t w a hr hc hr2 hc2 hs ht hgi hgm
      · exact acSNot p q cap cap2 bs cs t w a hr hc hr2 hc2 hs ht hgi hgm
  · have HG := Lib.hid (decide_eq_false hs)
    clear hr hc hr2 hc2 hgi hgm
    go_enter Tryd.func4, Tryd.ntmps4
    go_wp2_with (fail)
    refine (guardAC _ _ _ _ _ _ _ _ _ hl1 hl2).mono ?_
    rintro e w' ⟨rfl, rfl⟩
    rw [HG.out]
    go_wp2
    go_ret
    exact ⟨rfl, Below.refl _ _⟩
end Go.Proofs.YtnjinknpckkioaaDoor.Fm
namespace Go.Proofs.YtnjinknpckkioaaDoor
open Go.Proofs.YtnjinknpckkioaaDoor.Fm
theorem fnBytesAddConcat.walk (a0 : Option Addr) (len0 cap0 : Nat) (z0 : List Int) (a1 : Option Addr) (len1 cap1 : Nat) (z1 : List Int) (a2 : Int) (a3 : Bool) (w : World) (w0 : LawFrame.IsRow .u8 1 w a0 len0 cap0 z0) (w1 : LawFrame.IsRow .u8 1 w a1 len1 cap1 z1) (_w2 : (Lit.int .i64 a2).wf = true)
    (hL : laidMetH Tryd.prog Rows.fnBytesAddConcatRow.laid w) :
    Calls Tryd.prog 4 #[.slice a0 len0 cap0, .slice a1 len1 cap1, .int .i64 a2, .bool a3] w fun e w' => e = .returned (.bool true) ∧ RowKit.Below w.heap.size w w' := by
  obtain ⟨bs, hr, hc, _, hsz⟩ := Go.Fmt.rowAt_of w0
  obtain ⟨cs, hr2, hc2, _, hsz2⟩ := Go.Fmt.rowAt_of w1
  obtain rfl := hr.len
  obtain rfl := hr2.len
  obtain ⟨⟨a, hg⟩, hgm⟩ := sentinels hL
  exact acLaw a0 a1 cap0 cap1 bs cs a2 a3 w a hr hc hr2 hc2 hsz hsz2 hg hgm
end Go.Proofs.YtnjinknpckkioaaDoor
