/- The law FnCopyRangeArrayFreshAndEqual: its walk. -/
import Derived.Test.YtaeinldkhjmleaaDoorCpy
namespace Go.Proofs.YtaeinldkhjmleaaDoor.Rg
open Go.ChangeShapes Go.WideShapes Go.ChangeAt Go.RowKit Go.Blk

set_option maxRecDepth 100000 in
set_option maxHeartbeats 8000000 in
theorem lawUp (s t : Int) (n : Nat) (w : World) (hs1 : -1152921504606846976 ≤ s) (hs2 : s ≤ 1152921504606846976) (ht1 : -1152921504606846976 ≤ t) (ht2 : t ≤ 1152921504606846976) (hn : t = s + n) (hl : n ≤ 65536) :
    Calls Tryd.prog 4 #[.int .i64 s, .int .i64 t] w fun e w' => e = .returned (.bool true) ∧ Below w.heap.size w w' := by
  have HR := Lib.hid (zRange s t _ w (rangeUp s t n w hs1 hs2 hn hl))
  obtain ⟨vs, hvs⟩ : ∃ vs, vs = rng s (1) n := ⟨_, rfl⟩
  have hvl : vs.length = n := by rw [hvs, rng_length]
  have HVG : Hid (∀ j (hj : j < vs.length), vs[j] = s + (j : Int)) := Lib.hid (by subst hvs; intro j hj; rw [rng_get]; omega)
  rw [← hvs] at HR
  have HVL := Lib.hid hvl
  have hd : t - s = (n : Int) := by omega
  have hle : ¬ t < s := by omega
  clear hvs hvl hn
  go_enter Tryd.func4, Tryd.ntmps4
  go_wp2_with (fail)
  refine HR.out.mono ?_
  rintro e w1 ⟨B, q, cap, bs, rfl, hB, hA1, hb1⟩
  have HC := Lib.hid (zCopy B cap q bs vs w1 hA1 (by rw [HVL.out]; omega))
  have HA1 := Lib.hid hA1
  have HB1 := Lib.hid hb1
  clear hA1 hb1 HR
  go_wp2_with (fail)
  refine HC.out.mono ?_
  rintro e w2 ⟨B', q', cap', cs, rfl, hB', hA2, hcs, hb2⟩
  have hA12 := HA1.out.old hb2
  have heq := arr_ne hA2.blk hA12.blk (a := B') (b := B) (by have := HA1.out.blk.lt; omega)
  have hne : ∀ x ∈ bs, ∀ y ∈ cs, x ≠ y := fun x hx y hy => by have := HA1.out.ints.lt x hx; have := hcs y hy; omega
  have HL1 : Hid (Calls Tryd.prog 13 #[.pointer (some ⟨B, 0, none⟩)] w2 fun e w' => e = .returned (.int .i64 n) ∧ w2 = w') := Lib.hid (by have h := zLen B cap q bs vs w2 hA12; rw [HVL.out] at h; exact h)
  have HL2 : Hid (Calls Tryd.prog 13 #[.pointer (some ⟨B', 0, none⟩)] w2 fun e w' => e = .returned (.int .i64 n) ∧ w2 = w') := Lib.hid (by have h := zLen B' cap' q' cs vs w2 hA2; rw [HVL.out] at h; exact h)
  have HAT1 : Hid (∀ j, j < n → Calls Tryd.prog 14 #[.pointer (some ⟨B, 0, none⟩), .int .i64 j] w2 fun e w' => e = .returned (.tuple #[.int .i64 (s + (j : Int)), .bool true]) ∧ w2 = w') := Lib.hid (fun j hj => by have h := zAt B cap q bs vs j w2 hA12 (by rw [HVL.out]; exact hj) (by rw [HVL.out]; omega); rw [HVG.out] at h; exact h)
  have HAT2 : Hid (∀ j, j < n → Calls Tryd.prog 14 #[.pointer (some ⟨B', 0, none⟩), .int .i64 j] w2 fun e w' => e = .returned (.tuple #[.int .i64 (s + (j : Int)), .bool true]) ∧ w2 = w') := Lib.hid (fun j hj => by have h := zAt B' cap' q' cs vs j w2 hA2 (by rw [HVL.out]; exact hj) (by rw [HVL.out]; omega); rw [HVG.out] at h; exact h)
  have HSM : Hid (∀ j, j < n → Calls Tryd.prog 15 #[.pointer (some ⟨B, 0, none⟩), .pointer (some ⟨B', 0, none⟩), .int .i64 j] w2 fun e w' => e = .returned (.bool false) ∧ w2 = w') := Lib.hid (fun j hj => zSame B B' cap cap' q q' bs cs vs j w2 hA12 hA2 (by rw [HVL.out]; exact hj) (by rw [HVL.out]; omega) hne)
  have HBW : Hid (Below w.heap.size w w2) := Lib.hid (HB1.out.trans (hb2.mono HB1.out.size))
  clear hA12 hA2 hne hcs hb2 HC HVG HVL
  go_wp2_with (fail)
  refine HL1.out.mono ?_
  rintro e w' ⟨rfl, rfl⟩
  go_wp2_with (fail)
  refine HL2.out.mono ?_
  rintro e w' ⟨rfl, rfl⟩
  go_wp2
  go_loop [11] (fun iv => ∃ k : Nat, k ≤ n ∧ iv = .int .i64 k) (fun iv => n - (intOf iv).toNat)
  case atStart => exact ⟨0, Nat.zero_le _, rfl⟩
  case round =>
    obtain ⟨k, hk, rfl⟩ := hrel
    by_cases hlt : k < n
    · have C1 := Lib.hid (HAT1.out k hlt)
      have C2 := Lib.hid (HAT2.out k hlt)
      have C3 := Lib.hid (HSM.out k hlt)
      go_wp2_with (fail)
      refine C1.out.mono ?_
      rintro e w' ⟨rfl, rfl⟩
      go_wp2_with (fail)
      refine C2.out.mono ?_
      rintro e w' ⟨rfl, rfl⟩
      go_wp2_with (fail)
      refine C3.out.mono ?_
      rintro e w' ⟨rfl, rfl⟩
      go_wp2
      go_round
      case rel => exact ⟨k + 1, hlt, by go_num⟩
      case measure => simp [intOf]; omega
    · obtain rfl : k = n := by omega
      go_wp2
      go_ret
      exact ⟨rfl, HBW.out⟩

set_option maxRecDepth 100000 in
set_option maxHeartbeats 8000000 in
theorem lawDn (s t : Int) (n : Nat) (w : World) (hs1 : -1152921504606846976 ≤ s) (hs2 : s ≤ 1152921504606846976) (ht1 : -1152921504606846976 ≤ t) (ht2 : t ≤ 1152921504606846976) (hn : t = s - n) (hl : n ≤ 65536) (hpos : 0 < n) :
    Calls Tryd.prog 4 #[.int .i64 s, .int .i64 t] w fun e w' => e = .returned (.bool true) ∧ Below w.heap.size w w' := by
  have HR := Lib.hid (zRange s t _ w (rangeDn s t n w hs1 hs2 hn hl hpos))
  obtain ⟨vs, hvs⟩ : ∃ vs, vs = rng s (-1) n := ⟨_, rfl⟩
  have hvl : vs.length = n := by rw [hvs, rng_length]
  have HVG : Hid (∀ j (hj : j < vs.length), vs[j] = s - (j : Int)) := Lib.hid (by subst hvs; intro j hj; rw [rng_get]; omega)
  rw [← hvs] at HR
  have HVL := Lib.hid hvl
  have hd0 : t - s < 0 := by omega
  have hd1 : -(t - s) = (n : Int) := by omega
  have hle : t < s := by omega
  clear hvs hvl hn
  go_enter Tryd.func4, Tryd.ntmps4
  go_wp2_with (fail)
  refine HR.out.mono ?_
  rintro e w1 ⟨B, q, cap, bs, rfl, hB, hA1, hb1⟩
  have HC := Lib.hid (zCopy B cap q bs vs w1 hA1 (by rw [HVL.out]; omega))
  have HA1 := Lib.hid hA1
  have HB1 := Lib.hid hb1
  clear hA1 hb1 HR
  go_wp2_with (fail)
  refine HC.out.mono ?_
  rintro e w2 ⟨B', q', cap', cs, rfl, hB', hA2, hcs, hb2⟩
  have hA12 := HA1.out.old hb2
  have heq := arr_ne hA2.blk hA12.blk (a := B') (b := B) (by have := HA1.out.blk.lt; omega)
  have hne : ∀ x ∈ bs, ∀ y ∈ cs, x ≠ y := fun x hx y hy => by have := HA1.out.ints.lt x hx; have := hcs y hy; omega
  have HL1 : Hid (Calls Tryd.prog 13 #[.pointer (some ⟨B, 0, none⟩)] w2 fun e w' => e = .returned (.int .i64 n) ∧ w2 = w') := Lib.hid (by have h := zLen B cap q bs vs w2 hA12; rw [HVL.out] at h; exact h)
  have HL2 : Hid (Calls Tryd.prog 13 #[.pointer (some ⟨B', 0, none⟩)] w2 fun e w' => e = .returned (.int .i64 n) ∧ w2 = w') := Lib.hid (by have h := zLen B' cap' q' cs vs w2 hA2; rw [HVL.out] at h; exact h)
  have HAT1 : Hid (∀ j, j < n → Calls Tryd.prog 14 #[.pointer (some ⟨B, 0, none⟩), .int .i64 j] w2 fun e w' => e = .returned (.tuple #[.int .i64 (s - (j : Int)), .bool true]) ∧ w2 = w') := Lib.hid (fun j hj => by have h := zAt B cap q bs vs j w2 hA12 (by rw [HVL.out]; exact hj) (by rw [HVL.out]; omega); rw [HVG.out] at h; exact h)
  have HAT2 : Hid (∀ j, j < n → Calls Tryd.prog 14 #[.pointer (some ⟨B', 0, none⟩), .int .i64 j] w2 fun e w' => e = .returned (.tuple #[.int .i64 (s - (j : Int)), .bool true]) ∧ w2 = w') := Lib.hid (fun j hj => by have h := zAt B' cap' q' cs vs j w2 hA2 (by rw [HVL.out]; exact hj) (by rw [HVL.out]; omega); rw [HVG.out] at h; exact h)
  have HSM : Hid (∀ j, j < n → Calls Tryd.prog 15 #[.pointer (some ⟨B, 0, none⟩), .pointer (some ⟨B', 0, none⟩), .int .i64 j] w2 fun e w' => e = .returned (.bool false) ∧ w2 = w') := Lib.hid (fun j hj => zSame B B' cap cap' q q' bs cs vs j w2 hA12 hA2 (by rw [HVL.out]; exact hj) (by rw [HVL.out]; omega) hne)
  have HBW : Hid (Below w.heap.size w w2) := Lib.hid (HB1.out.trans (hb2.mono HB1.out.size))
  clear hA12 hA2 hne hcs hb2 HC HVG HVL
  go_wp2_with (fail)
  refine HL1.out.mono ?_
  rintro e w' ⟨rfl, rfl⟩
  go_wp2_with (fail)
  refine HL2.out.mono ?_
  rintro e w' ⟨rfl, rfl⟩
  go_wp2
  go_loop [11] (fun iv => ∃ k : Nat, k ≤ n ∧ iv = .int .i64 k) (fun iv => n - (intOf iv).toNat)
  case atStart => exact ⟨0, Nat.zero_le _, rfl⟩
  case round =>
    obtain ⟨k, hk, rfl⟩ := hrel
    by_cases hlt : k < n
    · have C1 := Lib.hid (HAT1.out k hlt)
      have C2 := Lib.hid (HAT2.out k hlt)
      have C3 := Lib.hid (HSM.out k hlt)
      go_wp2_with (fail)
      refine C1.out.mono ?_
      rintro e w' ⟨rfl, rfl⟩
      go_wp2_with (fail)
      refine C2.out.mono ?_
      rintro e w' ⟨rfl, rfl⟩
      go_wp2_with (fail)
      refine C3.out.mono ?_
      rintro e w' ⟨rfl, rfl⟩
      go_wp2
      go_round
      case rel => exact ⟨k + 1, hlt, by go_num⟩
      case measure => simp [intOf]; omega
    · obtain rfl : k = n := by omega
      go_wp2
      go_ret
      exact ⟨rfl, HBW.out⟩

set_option maxRecDepth 100000 in
set_option maxHeartbeats 4000000 in
theorem crLaw (s t : Int) (w : World) :
    Calls Tryd.prog 4 #[.int .i64 s, .int .i64 t] w fun e w' => e = .returned (.bool true) ∧ Below w.heap.size w w' := by
  by_cases h1 : s < -1152921504606846976
  · go_enter Tryd.func4, Tryd.ntmps4
    go_wp2
    go_ret
    exact ⟨rfl, Below.refl _ _⟩
  by_cases h2 : 1152921504606846976 < s
  · go_enter Tryd.func4, Tryd.ntmps4
    go_wp2
    go_ret
    exact ⟨rfl, Below.refl _ _⟩
  by_cases h3 : t < -1152921504606846976
  · go_enter Tryd.func4, Tryd.ntmps4
    go_wp2
    go_ret
    exact ⟨rfl, Below.refl _ _⟩
  by_cases h4 : 1152921504606846976 < t
  · go_enter Tryd.func4, Tryd.ntmps4
    go_wp2
    go_ret
    exact ⟨rfl, Below.refl _ _⟩
  by_cases h5 : 65536 < t - s
  · have h6 : ¬ t - s < 0 := by omega
    go_enter Tryd.func4, Tryd.ntmps4
    go_wp2
    go_ret
    exact ⟨rfl, Below.refl _ _⟩
  by_cases h6 : 65536 < -(t - s)
  · have h7 : t - s < 0 := by omega
    go_enter Tryd.func4, Tryd.ntmps4
    go_wp2
    go_ret
    exact ⟨rfl, Below.refl _ _⟩
  by_cases h7 : s ≤ t
  · exact lawUp s t (t - s).toNat w (by omega) (by omega) (by omega) (by omega) (by omega) (by omega)
  · exact lawDn s t (s - t).toNat w (by omega) (by omega) (by omega) (by omega) (by omega) (by omega) (by omega)
end Go.Proofs.YtaeinldkhjmleaaDoor.Rg
namespace Go.Proofs.YtaeinldkhjmleaaDoor
theorem fnCopyRangeArrayFreshAndEqual.walk (a0 a1 : Int) (w : World) (_w0 : (Lit.int .i64 a0).wf = true) (_w1 : (Lit.int .i64 a1).wf = true) (_hL : laidMetH Tryd.prog Rows.fnCopyRangeArrayFreshAndEqualRow.laid w) :
    Calls Tryd.prog 4 #[.int .i64 a0, .int .i64 a1] w fun e w' => e = .returned (.bool true) ∧ RowKit.Below w.heap.size w w' := Rg.crLaw a0 a1 w
end Go.Proofs.YtaeinldkhjmleaaDoor
