/- The law: what zzCountConsts lays, CountObjects counts as the closed form says. -/
import Derived.Test.YtehfbmkaojlbeaaGreatCc
import Derived.Test.YtehfbmkaojlbeaaGreatCb
import Derived.Test.YtehfbmkaojlbeaaGreatCk
import Derived.Test.YtehfbmkaojlbeaaGreatRows
namespace Go.Proofs.YtehfbmkaojlbeaaGreat.Co
open Go.ChangeShapes Go.WideShapes Go.ChangeAt Go.RowKit Go.Maps Go.Lib
theorem guardC (pk ps : Option Addr) (lk ck ls cs : Nat) (w : World) (h1 : (lk : Int) ≤ 140737488351232) (h2 : (ls : Int) ≤ 140737488351232) : Calls Tryz.prog 4 #[.slice pk lk ck, .slice ps ls cs] w fun e w' => e = .returned (.bool (decide ((lk : Int) + (ls : Int) ≤ 1048576))) ∧ w = w' := by
  by_cases a : (lk : Int) ≤ 1048576
  · have a' : ¬ (1048576 : Int) < (lk : Int) := by omega
    by_cases b : (ls : Int) ≤ 1048576
    · have b' : ¬ (1048576 : Int) < (ls : Int) := by omega
      by_cases c : (lk : Int) + (ls : Int) ≤ 1048576
      · have c' : ¬ (1048576 : Int) < (lk : Int) + (ls : Int) := by omega
        rw [decide_eq_true c]
        go_enter Tryz.func4, Tryz.ntmps4
        go_wp2
        go_ret
        exact ⟨rfl, rfl⟩
      · have c' : (1048576 : Int) < (lk : Int) + (ls : Int) := by omega
        rw [decide_eq_false c]
        go_enter Tryz.func4, Tryz.ntmps4
        go_wp2
        go_ret
        exact ⟨rfl, rfl⟩
    · have b' : (1048576 : Int) < (ls : Int) := by omega
      rw [decide_eq_false (by omega)]
      go_enter Tryz.func4, Tryz.ntmps4
      go_wp2
      go_ret
      exact ⟨rfl, rfl⟩
  · have a' : (1048576 : Int) < (lk : Int) := by omega
    rw [decide_eq_false (by omega)]
    go_enter Tryz.func4, Tryz.ntmps4
    go_wp2
    go_ret
    exact ⟨rfl, rfl⟩
/-- The sum of the sizes. -/
def sumM (ms : Nat → Nat) : Nat → Nat
  | 0 => 0
  | i + 1 => sumM ms i + ms i
theorem sumM_le (ms : Nat → Nat) (n : Nat) (h : ∀ j, j < n → ms j < 65536) : ∀ i, i ≤ n → sumM ms i ≤ i * 65536
  | 0, _ => Nat.le_refl _
  | i + 1, hi => by
    have h1 := sumM_le ms n h i (by omega)
    have h3 := h i (by omega)
    rw [sumM, Nat.succ_mul]
    omega
theorem InRow.le {w : World} {p : Option Addr} {q : IntKind} {f : Nat → Nat} {n m : Nat} (h : InRow w p q f n) (hm : m ≤ n) : InRow w p q f m := fun j hj => h j (by omega)
theorem cell_at_new (w : World) (cs : Array Value) (T : TypeId) (i : Nat) (v : Value) (h : cs[i]? = some v) : (w.alloc (.cells cs T)).cell? ⟨w.heap.size, i, none⟩ = some v := by
  have h1 : (w.alloc (.cells cs T)).heap[w.heap.size]? = some (.cells cs T) := (MapKept.heap_alloc w _).1
  simp only [World.cell?, h1]
  exact h
set_option maxRecDepth 100000 in
set_option maxHeartbeats 20000000 in
theorem lawC (pk ps : Option Addr) (lk ck ls cs : Nat) (ks ms : Nat → Nat) (w : World) (hks : InRow w pk .u8 ks lk) (hms : InRow w ps .u16 ms ls) (h8 : ∀ j, j < lk → ks j < 256) (h16 : ∀ j, j < ls → ms j < 65536) (hpk : pk = none → ck = 0) (hps : ps = none → cs = 0) (b1 : (lk : Int) ≤ 140737488351232) (b2 : (ls : Int) ≤ 140737488351232) :
    Calls Tryz.prog 3 #[.slice pk lk ck, .slice ps ls cs] w fun e w' => e = .returned (.bool true) ∧ Below w.heap.size w w' := by
  have HG := Lib.hid (guardC pk ps lk ck ls cs w b1 b2)
  by_cases hs : (lk : Int) + (ls : Int) ≤ 1048576
  · rw [decide_eq_true hs] at HG
    by_cases l1 : lk ≤ 65536
    · have l1' : ¬ (65536 : Int) < (lk : Int) := by omega
      by_cases l2 : ls ≤ 65536
      · have l2' : ¬ (65536 : Int) < (ls : Int) := by omega
        obtain ⟨n, hn, hA, hB⟩ : ∃ n, ((n = ls ∧ n < lk) ∨ (n = lk ∧ n ≤ ls)) ∧ n ≤ lk ∧ n ≤ ls := by
          by_cases h : ls < lk
          · exact ⟨ls, .inl ⟨rfl, h⟩, by omega, by omega⟩
          · exact ⟨lk, .inr ⟨rfl, by omega⟩, by omega, by omega⟩
        have hn16 : n ≤ 65536 := by omega
        have HK := Lib.hid hks
        have HM := Lib.hid hms
        have H8 := Lib.hid h8
        have H16 := Lib.hid h16
        have HP := Lib.hid hpk
        have HPS := Lib.hid hps
        have HS := Lib.hid (sumM_le ms n (fun j hj => h16 j (by omega)))
        clear hks hms h8 h16 hpk hps b1 b2 hs l1 l2
        rcases hn with ⟨rfl, hc⟩ | ⟨rfl, hc⟩
        · have hc' : (n : Int) < (lk : Int) := by omega
          go_enter Tryz.func3, Tryz.ntmps3
          go_wp2_with (fail)
          refine HG.out.mono ?_
          rintro e w' ⟨rfl, rfl⟩
          go_wp2_with (fail)
          go_loopw [6, 7] (fun vt vi wr => ∃ j : Nat, vi = .int .i64 j ∧ vt = .int .i64 ((sumM ms j : Nat) : Int) ∧ j ≤ n ∧ wr = w) (fun _ vi _ => match vi with | .int _ z => n - z.toNat | _ => 0)
          case atStart => exact ⟨0, rfl, rfl, Nat.zero_le _, rfl⟩
          case round =>
            obtain ⟨j, rfl, rfl, hj, rfl⟩ := hrel
            by_cases hlt : j < n
            · have hlt' : (j : Int) < (n : Int) := by omega
              obtain ⟨xs, rfl, cs0⟩ := HM.out j (by omega)
              have hm16 := H16.out j (by omega)
              have hsn : sumM ms (j + 1) = sumM ms j + ms j := rfl
              have hsum := HS.out (j + 1) (by omega)
              have hbd : sumM ms j + ms j ≤ 4294967296 := by rw [← hsn]; omega
              obtain ⟨s0, hs0⟩ : ∃ s0, s0 = sumM ms j := ⟨_, rfl⟩
              obtain ⟨m, hm⟩ : ∃ m, m = ms j := ⟨_, rfl⟩
              rw [← hs0, ← hm] at hbd
              rw [← hm] at cs0 hm16
              rw [← hs0]
              have HSN := Lib.hid hsn
              have HM0 := Lib.hid hm
              have HS0 := Lib.hid hs0
              clear hsn hsum hm hs0
              go_wp2_with (fail)
              go_roundw
              case rel => exact ⟨j + 1, by simp, by rw [HSN.out, ← HS0.out, ← HM0.out]; simp, by omega, by simp⟩
              case measure => simp only []; omega
            · have hlt' : ¬ (j : Int) < (n : Int) := by omega
              obtain rfl : j = n := by omega
              have hsum := HS.out j (Nat.le_refl _)
              obtain ⟨s0, hs0⟩ : ∃ s0, s0 = sumM ms j := ⟨_, rfl⟩
              rw [← hs0] at hsum ⊢
              by_cases ht : s0 ≤ 65536
              · have ht' : ¬ (65536 : Int) < (s0 : Int) := by omega
                go_wp2_with (fail)
                refine (cloneU8 pk _ ck ks wr HK.out (by omega) HP.out).mono ?_
                rintro e w1 ⟨pk', ck', rfl, hk1, hb1⟩
                have HK1 := Lib.hid hk1
                have HB1 := Lib.hid hb1
                have HM1 := Lib.hid (HM.out.old hb1)
                clear hk1 hb1
                go_wp2_with (fail)
                refine (cloneU16 ps _ cs ms w1 HM1.out (by omega) HPS.out).mono ?_
                rintro e w2 ⟨ps', cs', rfl, hm2, hb2⟩
                have HK2 := Lib.hid (HK1.out.old hb2)
                have HM2 := Lib.hid hm2
                have HB2 := Lib.hid (HB1.out.trans (hb2.mono HB1.out.size))
                clear hm2 hb2
                go_wp2_with (fail)
                refine (consts pk' ps' _ ck' _ cs' j ks ms w2 (by omega) (by omega) (by omega) (HK2.out.le (by omega)) (HM2.out.le (by omega)) (fun i hi => H8.out i (by omega)) (fun i hi => H16.out i (by omega))).mono ?_
                rintro e w3 ⟨vo, vals, rfl, S⟩
                have HSt := Lib.hid S
                clear S hc hA hB hlt hs0 ht hj hlt' ht' hsum
                obtain ⟨q, cap, rfl⟩ : ∃ q cap, vo = .slice q j cap := by
                  rcases HSt.out.own.2 with ⟨e1, e2⟩ | ⟨g, c, cur, e1, _⟩
                  · exact ⟨_, _, by rw [e1, e2]⟩
                  · exact ⟨_, _, e1⟩
                have hsN := Lib.hid (sumN_le ks ms j (fun i hi => H16.out i (by omega)))
                go_wp2_with (fail)
                obtain ⟨w4, hw4⟩ : ∃ w4, w4 = w3.alloc (.cells #[.pointer none, .pointer none, .slice q j cap] 34) := ⟨_, rfl⟩
                rw [← hw4]
                have hg4 : w3.grownBy w4 none := by rw [hw4]; exact World.grownBy_alloc _ _ none
                have HG4 := Lib.hid hg4
                have HC4 : Hid (w4.cell? ⟨w3.heap.size, 2, none⟩ = some (.slice q j cap)) := Lib.hid (by rw [hw4]; exact cell_at_new _ _ _ 2 _ rfl)
                have hb4 : Below wr.heap.size wr w4 := ((HB2.out.trans (HSt.out.low.mono HB2.out.size))).grown hg4 (by have := HB2.out.size; have := HSt.out.low.size; omega) (fun j hj => by cases hj)
                have HB4 := Lib.hid hb4
                have hb24 : Below w2.heap.size w2 w4 := HSt.out.low.grown hg4 (HSt.out.low.size) (fun j hj => by cases hj)
                have HK4 := Lib.hid (HK2.out.old hb24)
                have HM4 := Lib.hid (HM2.out.old hb24)
                clear hw4 hg4 hb4 hb24
                go_loopw [9, 10] (fun vt vi wq => ∃ i : Nat, vi = .int .i64 i ∧ vt = .int .i64 ((sumN ks ms i : Nat) : Int) ∧ i ≤ j ∧ wq = w4) (fun _ vi _ => match vi with | .int _ z => j - z.toNat | _ => 0)
                case atStart => exact ⟨0, rfl, rfl, Nat.zero_le _, rfl⟩
                case round =>
                  obtain ⟨i, rfl, rfl, hi, rfl⟩ := hrel
                  by_cases hlt : i < j
                  · have hlt' : (i : Int) < (j : Int) := by omega
                    obtain ⟨xk, rfl, ck0⟩ := HK4.out i (by omega)
                    obtain ⟨xs, rfl, cs0⟩ := HM4.out i (by omega)
                    have hk256 := H8.out i (by omega)
                    have hm16 := H16.out i (by omega)
                    have hsn : sumN ks ms (i + 1) = sumN ks ms i + objN (ks i) (ms i) := rfl
                    have hsum := hsN.out (i + 1) (by omega)
                    have hbd : sumN ks ms i ≤ 4295098368 := by have := hsN.out i (by omega); omega
                    obtain ⟨s1, hs1⟩ : ∃ s1, s1 = sumN ks ms i := ⟨_, rfl⟩
                    obtain ⟨k, hk⟩ : ∃ k, k = ks i := ⟨_, rfl⟩
                    obtain ⟨m, hm⟩ : ∃ m, m = ms i := ⟨_, rfl⟩
                    rw [← hs1] at hbd ⊢
                    rw [← hk] at ck0 hk256
                    rw [← hm] at cs0 hm16
                    rw [← hs1, ← hk, ← hm] at hsn
                    have HSN := Lib.hid hsn
                    clear hsn hsum hs1 hk hm
                    by_cases k0 : k % 6 = 0
                    · have k0' : (k : Int) % 6 = 0 := by omega
                      have e0 : objN k m = 1 := by unfold objN; rw [if_pos k0]
                      rw [e0] at HSN
                      clear e0 k0
                      go_wp2_with (fail)
                      go_roundw
                      case rel => exact ⟨i + 1, by simp, by rw [HSN.out]; simp, by omega, by simp⟩
                      case measure => simp only []; omega
                    · by_cases k4 : k % 6 = 4
                      · have k4' : (k : Int) % 6 = 4 := by omega
                        have e0 : objN k m = 2 + m := by unfold objN; rw [if_neg k0, if_pos k4]
                        rw [e0] at HSN
                        clear e0 k0 k4
                        go_wp2_with (fail)
                        go_roundw
                        case rel => exact ⟨i + 1, by simp, by rw [HSN.out]; simp, by omega, by simp⟩
                        case measure => simp only []; omega
                      · have k0' : ¬ (k : Int) % 6 = 0 := by omega
                        have k4' : ¬ (k : Int) % 6 = 4 := by omega
                        have e0 : objN k m = 1 + m := by unfold objN; rw [if_neg k0, if_neg k4]
                        rw [e0] at HSN
                        clear e0 k0 k4
                        go_wp2_with (fail)
                        go_roundw
                        case rel => exact ⟨i + 1, by simp, by rw [HSN.out]; simp, by omega, by simp⟩
                        case measure => simp only []; omega
                  · have hlt' : ¬ (i : Int) < (j : Int) := by omega
                    obtain rfl : i = j := by omega
                    go_wp2_with (fail)
                    refine (bcCount w3.heap.size i _ vals ks ms w2 w3 wr HSt.out (fun j hj => H16.out j (by omega)) (by omega) HG4.out HC4.out).mono ?_
                    rintro e w5 ⟨rfl, hb5⟩
                    go_wp2
                    go_ret
                    exact ⟨by simp, HB4.out.trans (hb5.mono HB4.out.size)⟩
              · have ht' : (65536 : Int) < (s0 : Int) := by omega
                go_wp2
                go_ret
                exact ⟨rfl, Below.refl _ _⟩
        · have hc' : ¬ (ls : Int) < (n : Int) := by omega
          go_enter Tryz.func3, Tryz.ntmps3
          go_wp2_with (fail)
          refine HG.out.mono ?_
          rintro e w' ⟨rfl, rfl⟩
          go_wp2_with (fail)
          go_loopw [6, 7] (fun vt vi wr => ∃ j : Nat, vi = .int .i64 j ∧ vt = .int .i64 ((sumM ms j : Nat) : Int) ∧ j ≤ n ∧ wr = w) (fun _ vi _ => match vi with | .int _ z => n - z.toNat | _ => 0)
          case atStart => exact ⟨0, rfl, rfl, Nat.zero_le _, rfl⟩
          case round =>
            obtain ⟨j, rfl, rfl, hj, rfl⟩ := hrel
            by_cases hlt : j < n
            · have hlt' : (j : Int) < (n : Int) := by omega
              obtain ⟨xs, rfl, cs0⟩ := HM.out j (by omega)
              have hm16 := H16.out j (by omega)
              have hsn : sumM ms (j + 1) = sumM ms j + ms j := rfl
              have hsum := HS.out (j + 1) (by omega)
              have hbd : sumM ms j + ms j ≤ 4294967296 := by rw [← hsn]; omega
              obtain ⟨s0, hs0⟩ : ∃ s0, s0 = sumM ms j := ⟨_, rfl⟩
              obtain ⟨m, hm⟩ : ∃ m, m = ms j := ⟨_, rfl⟩
              rw [← hs0, ← hm] at hbd
              rw [← hm] at cs0 hm16
              rw [← hs0]
              have HSN := Lib.hid hsn
              have HM0 := Lib.hid hm
              have HS0 := Lib.hid hs0
              clear hsn hsum hm hs0
              go_wp2_with (fail)
              go_roundw
              case rel => exact ⟨j + 1, by simp, by rw [HSN.out, ← HS0.out, ← HM0.out]; simp, by omega, by simp⟩
              case measure => simp only []; omega
            · have hlt' : ¬ (j : Int) < (n : Int) := by omega
              obtain rfl : j = n := by omega
              have hsum := HS.out j (Nat.le_refl _)
              obtain ⟨s0, hs0⟩ : ∃ s0, s0 = sumM ms j := ⟨_, rfl⟩
              rw [← hs0] at hsum ⊢
              by_cases ht : s0 ≤ 65536
              · have ht' : ¬ (65536 : Int) < (s0 : Int) := by omega
                go_wp2_with (fail)
                refine (cloneU8 pk _ ck ks wr HK.out (by omega) HP.out).mono ?_
                rintro e w1 ⟨pk', ck', rfl, hk1, hb1⟩
                have HK1 := Lib.hid hk1
                have HB1 := Lib.hid hb1
                have HM1 := Lib.hid (HM.out.old hb1)
                clear hk1 hb1
                go_wp2_with (fail)
                refine (cloneU16 ps _ cs ms w1 HM1.out (by omega) HPS.out).mono ?_
                rintro e w2 ⟨ps', cs', rfl, hm2, hb2⟩
                have HK2 := Lib.hid (HK1.out.old hb2)
                have HM2 := Lib.hid hm2
                have HB2 := Lib.hid (HB1.out.trans (hb2.mono HB1.out.size))
                clear hm2 hb2
                go_wp2_with (fail)
                refine (consts pk' ps' _ ck' _ cs' j ks ms w2 (by omega) (by omega) (by omega) (HK2.out.le (by omega)) (HM2.out.le (by omega)) (fun i hi => H8.out i (by omega)) (fun i hi => H16.out i (by omega))).mono ?_
                rintro e w3 ⟨vo, vals, rfl, S⟩
                have HSt := Lib.hid S
                clear S hc hA hB hlt hs0 ht hj hlt' ht' hsum
                obtain ⟨q, cap, rfl⟩ : ∃ q cap, vo = .slice q j cap := by
                  rcases HSt.out.own.2 with ⟨e1, e2⟩ | ⟨g, c, cur, e1, _⟩
                  · exact ⟨_, _, by rw [e1, e2]⟩
                  · exact ⟨_, _, e1⟩
                have hsN := Lib.hid (sumN_le ks ms j (fun i hi => H16.out i (by omega)))
                go_wp2_with (fail)
                obtain ⟨w4, hw4⟩ : ∃ w4, w4 = w3.alloc (.cells #[.pointer none, .pointer none, .slice q j cap] 34) := ⟨_, rfl⟩
                rw [← hw4]
                have hg4 : w3.grownBy w4 none := by rw [hw4]; exact World.grownBy_alloc _ _ none
                have HG4 := Lib.hid hg4
                have HC4 : Hid (w4.cell? ⟨w3.heap.size, 2, none⟩ = some (.slice q j cap)) := Lib.hid (by rw [hw4]; exact cell_at_new _ _ _ 2 _ rfl)
                have hb4 : Below wr.heap.size wr w4 := ((HB2.out.trans (HSt.out.low.mono HB2.out.size))).grown hg4 (by have := HB2.out.size; have := HSt.out.low.size; omega) (fun j hj => by cases hj)
                have HB4 := Lib.hid hb4
                have hb24 : Below w2.heap.size w2 w4 := HSt.out.low.grown hg4 (HSt.out.low.size) (fun j hj => by cases hj)
                have HK4 := Lib.hid (HK2.out.old hb24)
                have HM4 := Lib.hid (HM2.out.old hb24)
                clear hw4 hg4 hb4 hb24
                go_loopw [9, 10] (fun vt vi wq => ∃ i : Nat, vi = .int .i64 i ∧ vt = .int .i64 ((sumN ks ms i : Nat) : Int) ∧ i ≤ j ∧ wq = w4) (fun _ vi _ => match vi with | .int _ z => j - z.toNat | _ => 0)
                case atStart => exact ⟨0, rfl, rfl, Nat.zero_le _, rfl⟩
                case round =>
                  obtain ⟨i, rfl, rfl, hi, rfl⟩ := hrel
                  by_cases hlt : i < j
                  · have hlt' : (i : Int) < (j : Int) := by omega
                    obtain ⟨xk, rfl, ck0⟩ := HK4.out i (by omega)
                    obtain ⟨xs, rfl, cs0⟩ := HM4.out i (by omega)
                    have hk256 := H8.out i (by omega)
                    have hm16 := H16.out i (by omega)
                    have hsn : sumN ks ms (i + 1) = sumN ks ms i + objN (ks i) (ms i) := rfl
                    have hsum := hsN.out (i + 1) (by omega)
                    have hbd : sumN ks ms i ≤ 4295098368 := by have := hsN.out i (by omega); omega
                    obtain ⟨s1, hs1⟩ : ∃ s1, s1 = sumN ks ms i := ⟨_, rfl⟩
                    obtain ⟨k, hk⟩ : ∃ k, k = ks i := ⟨_, rfl⟩
                    obtain ⟨m, hm⟩ : ∃ m, m = ms i := ⟨_, rfl⟩
                    rw [← hs1] at hbd ⊢
                    rw [← hk] at ck0 hk256
                    rw [← hm] at cs0 hm16
                    rw [← hs1, ← hk, ← hm] at hsn
                    have HSN := Lib.hid hsn
                    clear hsn hsum hs1 hk hm
                    by_cases k0 : k % 6 = 0
                    · have k0' : (k : Int) % 6 = 0 := by omega
                      have e0 : objN k m = 1 := by unfold objN; rw [if_pos k0]
                      rw [e0] at HSN
                      clear e0 k0
                      go_wp2_with (fail)
                      go_roundw
                      case rel => exact ⟨i + 1, by simp, by rw [HSN.out]; simp, by omega, by simp⟩
                      case measure => simp only []; omega
                    · by_cases k4 : k % 6 = 4
                      · have k4' : (k : Int) % 6 = 4 := by omega
                        have e0 : objN k m = 2 + m := by unfold objN; rw [if_neg k0, if_pos k4]
                        rw [e0] at HSN
                        clear e0 k0 k4
                        go_wp2_with (fail)
                        go_roundw
                        case rel => exact ⟨i + 1, by simp, by rw [HSN.out]; simp, by omega, by simp⟩
                        case measure => simp only []; omega
                      · have k0' : ¬ (k : Int) % 6 = 0 := by omega
                        have k4' : ¬ (k : Int) % 6 = 4 := by omega
                        have e0 : objN k m = 1 + m := by unfold objN; rw [if_neg k0, if_neg k4]
                        rw [e0] at HSN
                        clear e0 k0 k4
                        go_wp2_with (fail)
                        go_roundw
                        case rel => exact ⟨i + 1, by simp, by rw [HSN.out]; simp, by omega, by simp⟩
                        case measure => simp only []; omega
                  · have hlt' : ¬ (i : Int) < (j : Int) := by omega
                    obtain rfl : i = j := by omega
                    go_wp2_with (fail)
                    refine (bcCount w3.heap.size i _ vals ks ms w2 w3 wr HSt.out (fun j hj => H16.out j (by omega)) (by omega) HG4.out HC4.out).mono ?_
                    rintro e w5 ⟨rfl, hb5⟩
                    go_wp2
                    go_ret
                    exact ⟨by simp, HB4.out.trans (hb5.mono HB4.out.size)⟩
              · have ht' : (65536 : Int) < (s0 : Int) := by omega
                go_wp2
                go_ret
                exact ⟨rfl, Below.refl _ _⟩
      · have l2' : (65536 : Int) < (ls : Int) := by omega
        clear hks hms h8 h16 hpk hps b1 b2 hs l1 l2
        go_enter Tryz.func3, Tryz.ntmps3
        go_wp2_with (fail)
        refine HG.out.mono ?_
        rintro e w' ⟨rfl, rfl⟩
        go_wp2
        go_ret
        exact ⟨rfl, Below.refl _ _⟩
    · have l1' : (65536 : Int) < (lk : Int) := by omega
      clear hks hms h8 h16 hpk hps b1 b2 hs l1
      go_enter Tryz.func3, Tryz.ntmps3
      go_wp2_with (fail)
      refine HG.out.mono ?_
      rintro e w' ⟨rfl, rfl⟩
      go_wp2
      go_ret
      exact ⟨rfl, Below.refl _ _⟩
  · rw [decide_eq_false hs] at HG
    clear hks hms h8 h16 hpk hps b1 b2 hs
    go_enter Tryz.func3, Tryz.ntmps3
    go_wp2_with (fail)
    refine HG.out.mono ?_
    rintro e w' ⟨rfl, rfl⟩
    go_wp2
    go_ret
    exact ⟨rfl, Below.refl _ _⟩
end Go.Proofs.YtehfbmkaojlbeaaGreat.Co
namespace Go.Proofs.YtehfbmkaojlbeaaGreat
open Go.Proofs.YtehfbmkaojlbeaaGreat.Co Go.RowKit
theorem row_in {q : IntKind} {b : Nat} {w : World} {a : Option Addr} {len cap : Nat} {z : List Int} {m : Nat} (h : LawFrame.IsRow q b w a len cap z) (hb : 1 ≤ b) (hq : ∀ n : Int, (Lit.int q n).wf = true → 0 ≤ n ∧ n < m) :
    InRow w a q (fun j => (z.getD j 0).toNat) len ∧ (∀ j, j < len → (z.getD j 0).toNat < m) ∧ (a = none → cap = 0) ∧ (len : Int) ≤ 140737488351232 := by
  rcases h with ⟨rfl, rfl, rfl, rfl⟩ | ⟨x, rfl, h1, h2, h3, h4, h5⟩
  · exact ⟨fun j hj => by omega, fun j hj => by omega, fun _ => rfl, by omega⟩
  · have hv : ∀ j, j < len → 0 ≤ z.getD j 0 ∧ z.getD j 0 < m := fun j hj => hq _ (h5 _ (by
      rw [List.getD_eq_getElem?_getD, List.getElem?_eq_getElem (by omega), Option.getD_some]
      exact List.getElem_mem _))
    refine ⟨fun j hj => ⟨x, rfl, ?_⟩, fun j hj => ?_, fun e => (by cases e), ?_⟩
    · rw [h4 j (by omega)]
      have := hv j hj
      rw [show (((z.getD j 0).toNat : Nat) : Int) = z.getD j 0 by omega]
    · have := hv j hj
      omega
    · have : cap * 1 ≤ cap * b := Nat.mul_le_mul_left _ hb
      omega
theorem fnBytecodeCountObjectsClosedForm.walk (a0 : Option Addr) (len0 cap0 : Nat) (z0 : List Int) (a1 : Option Addr) (len1 cap1 : Nat) (z1 : List Int) (w : World) (w0 : LawFrame.IsRow .u8 1 w a0 len0 cap0 z0) (w1 : LawFrame.IsRow .u16 2 w a1 len1 cap1 z1)  :
    Calls Tryz.prog 3 #[.slice a0 len0 cap0, .slice a1 len1 cap1] w fun e w' => e = .returned (.bool true) ∧ Below w.heap.size w w' := by
  obtain ⟨i0, i1, i2, i3⟩ := row_in (m := 256) w0 (by decide) (fun n h => by
    simp [Lit.wf, IntKind.min, IntKind.max, IntKind.signed, IntKind.bits] at h
    omega)
  obtain ⟨j0, j1, j2, j3⟩ := row_in (m := 65536) w1 (by decide) (fun n h => by
    simp [Lit.wf, IntKind.min, IntKind.max, IntKind.signed, IntKind.bits] at h
    omega)
  exact lawC a0 a1 len0 cap0 len1 cap1 _ _ w i0 j0 i1 j1 i2 j2 i3 j3
end Go.Proofs.YtehfbmkaojlbeaaGreat
