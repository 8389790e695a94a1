/- The law FnLoopDepthAfterEntersAndLeaves: its walk. -/
import Derived.Test.YtiohjlnebeifaaaFmtLoop
import Derived.LaidEqlPtr
import Derived.Lib.Builder
namespace Go.Proofs.YtiohjlnebeifaaaFmt.Lp
open Go.ChangeShapes Go.WideShapes Go.ChangeAt Go.RowKit

theorem own_ptr {w : World} {base g n cap : Nat} {ls : List Nat} (h : w.ownsRow base 27 1 (.slice (some ⟨g, 0, none⟩) n cap) n (ptrs ls)) (j : Nat) (hj : j < ls.length) : w.cell? ⟨g, j, none⟩ = some (.pointer (some ⟨ls[j], 0, none⟩)) := by
  obtain ⟨hh, ⟨e1, _⟩ | ⟨g', cap', cur, e1, k2, k3, k4, k5, k6, k7⟩⟩ := h
  · cases e1
  · cases e1
    simp only [Nat.mul_one] at k6 k7
    have k8 : (ptrs ls)[j]? = some (.pointer (some ⟨ls[j], 0, none⟩)) := by simp [ptrs, List.getElem?_eq_getElem hj]
    rw [ptrs_length] at hh
    rw [← k7, List.getElem?_take, if_pos (by omega), Array.getElem?_toList] at k8
    unfold World.cell?
    simp only [k3]
    simpa using k8
theorem own_old {w w' : World} {base base' C g n cap : Nat} {xs : List Value} (h : w.ownsRow base 27 1 (.slice (some ⟨g, 0, none⟩) n cap) n xs) (hk : KeptC base' C w w') (h1 : g < base') (h2 : g ≠ C) : w'.ownsRow base 27 1 (.slice (some ⟨g, 0, none⟩) n cap) n xs :=
  Go.Fmt.ownsRow_below h (fun k hkk => by
    have e : g = k := by simpa [Value.ownBlock] using hkk
    subst e
    exact hk.block g h1 h2)

theorem infoL : (Tryf.prog.info? 33).map (·.size) = some 2 := by kernel_rfl
theorem ptr_ne {w : World} {base C a b : Nat} {all ls : List Nat} (h : CompL w base C all ls) (ha : a ∈ all) (hb : b ∈ all) (hne : a ≠ b) : (binOp .eql 27 (.pointer (some ⟨a, 0, none⟩)) (.pointer (some ⟨b, 0, none⟩))).run Tryf.prog w = .ok (.bool false) w := by
  obtain ⟨ca, ta, h1⟩ := (h.all a ha).1
  obtain ⟨cb, tb, h2⟩ := (h.all b hb).1
  obtain ⟨j, hj, hs⟩ := Option.map_eq_some_iff.1 infoL
  exact run_eql_ptr_other w Tryf.underlying27 hj (by omega) (fun e => hne (congrArg Addr.block e)) h1 h2
theorem ptr_neq_same (w : World) (a : Addr) : (binOp .neq 27 (.pointer (some a)) (.pointer (some a))).run Tryf.prog w = .ok (.bool false) w := by
  obtain ⟨j, hj, hs⟩ := Option.map_eq_some_iff.1 infoL
  exact Lib.run_neq_ptr_same w a Tryf.underlying27 hj
theorem below_drewN {B n : Nat} {w w' : World} (h : Below B w w') : Below B w (w'.drewN n) := ⟨h.os, h.tape, h.output, h.size, h.block⟩

set_option maxRecDepth 100000 in
set_option maxHeartbeats 8000000 in
theorem depthMain (n k : Nat) (w : World) (hn : n ≤ 65536) (hk : k ≤ n) :
    Calls Tryf.prog 6 #[.int .i64 n, .int .i64 k] w fun e w' => e = .returned (.bool true) ∧ Below w.heap.size w w' := by
  obtain ⟨i3, hi, hz0, hz1, hz2⟩ := info_parts infoP
  have HI := Lib.hid hi
  have HI0 := Lib.hid hz0
  have HI1 := Lib.hid hz1
  have HI2 := Lib.hid hz2
  clear hi hz0 hz1 hz2
  have HN := Lib.hid (newCL w)
  have hnn := fun (w : World) (l : Nat) => ptr_neq_same w ⟨l, 0, none⟩
  go_enter Tryf.func6, Tryf.ntmps6
  go_wp2_with (fail)
  refine HN.out.mono ?_
  rintro e w1 ⟨C, rfl, hC1, hC2, hCL, hb1⟩
  have HCL := Lib.hid hCL
  have HB1 := Lib.hid hb1
  have hs1 := hb1.size
  clear hCL hb1 HN
  go_wp2_with ((at_make; refine wpList_make_own _ rfl _ _ 29 rfl w1.heap.size 27 i3 (.pointer none) 1 Tryf.underlying29 HI.out HI0.out HI1.out .i64 .i64 _ n rfl rfl rfl (by rw [HI2.out]; omega) (by unfold maxLen; omega) (Nat.le_refl _) ?_; intro w2 hown2 hgrow2))
  have hb2 : Below w1.heap.size w1 w2 := (Below.refl _ w1).grown hgrow2 (Nat.le_refl _) (fun k hk => by cases hk)
  have HB2 := Lib.hid hb2
  have hE2 : w1.heap.size < w2.heap.size := (hown2.lt _ rfl).2
  have HO2 : Hid (w2.ownsRow w1.heap.size 27 1 (.slice (some ⟨w1.heap.size, 0, none⟩) 0 n) 0 (ptrs [])) := Lib.hid hown2
  have HC2 := Lib.hid (HCL.out w2 hb2)
  obtain ⟨E, hE⟩ : ∃ E, E = w1.heap.size := ⟨_, rfl⟩
  obtain ⟨base, hbase⟩ : ∃ base, base = w2.heap.size := ⟨_, rfl⟩
  have HBW : Hid (Below w.heap.size w w2) := Lib.hid (HB1.out.trans (HB2.out.mono hs1))
  rw [← hE] at HO2 hE2 hC2 ⊢
  rw [← hbase] at HC2 hE2
  have hCE : E ≠ C := by omega
  have hbw : w.heap.size ≤ base := by omega
  clear hgrow2 hb2 hown2 HB2 HCL HB1 hE
  go_loopw [6, 7] (fun ev iv wr => ∃ (i : Nat) (es : List Nat), i ≤ n ∧ iv = .int .i64 i ∧ ev = .slice (some ⟨E, 0, none⟩) i n ∧ Hid (es.length = i ∧ wr.ownsRow E 27 1 (.slice (some ⟨E, 0, none⟩) i n) i (ptrs es) ∧ CompL wr base C es es ∧ Below w.heap.size w wr)) (fun _ iv _ => n - (intOf iv).toNat)
  case atStart => exact ⟨0, [], Nat.zero_le _, rfl, rfl, Lib.hid ⟨rfl, HO2.out, HC2.out, HBW.out⟩⟩
  case round =>
    obtain ⟨i, es, hin, rfl, rfl, HR⟩ := hrel
    obtain ⟨wo, hwo⟩ : ∃ wo : World, wo = wr := ⟨_, rfl⟩
    subst hwo
    by_cases hlt : i < n
    · have HE := Lib.hid (zEnter base C es es wo HR.out.2.2.1 (by rw [HR.out.1]; omega))
      have hwb := HR.out.2.2.1.lt.2
      go_wp2_with (fail)
      refine HE.out.mono ?_
      rintro e w3 ⟨rfl, hC3, hK3, hs3⟩
      have hown3 := own_old HR.out.2.1 hK3 hE2 hCE
      have HC3 := Lib.hid hC3
      have HK3 := Lib.hid hK3
      have HO3 := Lib.hid hown3
      clear hC3 hK3 hown3 HE
      have HFIN : Hid (∀ w5 : World, w5.ownsRow E 27 1 (.slice (some ⟨E, 0, none⟩) (i + 1) n) (i + 1) (ptrs es ++ [.pointer (some ⟨wo.heap.size, 0, none⟩)]) → (w3.alloc (.cells #[.pointer (some ⟨wo.heap.size, 0, none⟩)] 27)).grownBy w5 (some E) →
          ∃ es' : List Nat, es'.length = i + 1 ∧ w5.ownsRow E 27 1 (.slice (some ⟨E, 0, none⟩) (i + 1) n) (i + 1) (ptrs es') ∧ CompL w5 base C es' es' ∧ Below w.heap.size w w5) := Lib.hid (by
        intro w5 h1 h2
        have hk : ∀ k, k < w3.heap.size → k ≠ E → w5.heap[k]? = w3.heap[k]? := fun k hk hne => (h2.block k (by simp; omega) (fun e => hne (by simpa using e))).trans (Below.heap_alloc w3 _ k hk)
        have hsz : w3.heap.size ≤ w5.heap.size := by have := h2.size; simp at this; omega
        refine ⟨es ++ [wo.heap.size], by simp [HR.out.1], by rw [ptrs_append]; exact h1, HC3.out.other hE2 hCE hsz hk, ?_⟩
        have hb3 := HR.out.2.2.2.trans (HK3.out.below hbw hC1)
        exact ⟨h2.os.trans hb3.os, h2.tape.trans hb3.tape, h2.output.trans hb3.output, Nat.le_trans hb3.size hsz, fun k hk' => (hk k (Nat.lt_of_lt_of_le hk' hb3.size) (by omega)).trans (hb3.block k hk')⟩)
      by_cases hi0 : i = 0
      · subst hi0
        go_wp2_with ((at_builtin; refine wpList_append_fits _ rfl _ _ 29 rfl E 27 i3 1 Tryf.underlying29 HI.out HI1.out E _ n (ptrs es) rfl (HO3.out.alloc _) ⟨w3.heap.size, 0, none⟩ 1 1 [.pointer (some ⟨wo.heap.size, 0, none⟩)] rfl rfl (cell_one_new _ _ _) (by simp [Value.oneCell']) (by omega) ?_; intro w5 hown5 hgrow5))
        obtain ⟨es', g1, g2, g3, g4⟩ := HFIN.out w5 hown5 hgrow5
        go_roundw
        case rel => exact ⟨1, es', by omega, rfl, rfl, Lib.hid ⟨g1, g2, g3, g4⟩⟩
        case measure => simp [intOf]; omega
      · have hil : i - 1 < es.length := by rw [HR.out.1]; omega
        have hcl := own_ptr HO3.out (i - 1) hil
        have hxm : es[i - 1] ∈ es := List.getElem_mem _
        have hxl := (HR.out.2.2.1.all es[i - 1] hxm).1.lt
        have heq := ptr_ne HC3.out (a := es[i - 1]) (b := wo.heap.size) (by simp) (by simp) (by omega)
        clear hxm
        generalize es[i - 1] = x at *
        have s1 : (0 : Int) ≤ (i : Int) - 1 := by omega
        have s2 : (i : Int) - 1 < (i : Int) := by omega
        have s3 : ((i : Int) - 1).toNat = i - 1 := by omega
        have s4 : (0 : Int) < (i : Int) := by omega
        go_wp2_with ((at_builtin; refine wpList_append_fits _ rfl _ _ 29 rfl E 27 i3 1 Tryf.underlying29 HI.out HI1.out E _ n (ptrs es) rfl (HO3.out.alloc _) ⟨w3.heap.size, 0, none⟩ 1 1 [.pointer (some ⟨wo.heap.size, 0, none⟩)] rfl rfl (cell_one_new _ _ _) (by simp [Value.oneCell']) (by omega) ?_; intro w5 hown5 hgrow5))
        obtain ⟨es', g1, g2, g3, g4⟩ := HFIN.out w5 hown5 hgrow5
        go_roundw
        case rel => exact ⟨i + 1, es', hlt, by go_num, rfl, Lib.hid ⟨g1, g2, g3, g4⟩⟩
        case measure => simp [intOf]; omega
    · obtain rfl : i = n := by omega
      go_wp2
      go_loopw [9] (fun jv wr => ∃ j : Nat, j ≤ k ∧ jv = .int .i64 j ∧ Hid (wr.ownsRow E 27 1 (.slice (some ⟨E, 0, none⟩) i i) i (ptrs es) ∧ CompL wr base C es (es.take (i - j)) ∧ Below w.heap.size w wr)) (fun jv _ => k - (intOf jv).toNat)
      case atStart => exact ⟨0, Nat.zero_le _, rfl, Lib.hid ⟨HR.out.2.1, by rw [Nat.sub_zero, List.take_of_length_le (by rw [HR.out.1]; omega)]; exact HR.out.2.2.1, HR.out.2.2.2⟩⟩
      case round =>
        obtain ⟨j, hjk, rfl, HS⟩ := hrel
        obtain ⟨wp, hwp⟩ : ∃ wp : World, wp = wr := ⟨_, rfl⟩
        subst hwp
        have hel := HR.out.1
        have HEL := Lib.hid hel
        have htl : (es.take (i - j)).length = i - j := by simp; omega
        have HTL := Lib.hid htl
        clear hel htl
        by_cases hlt2 : j < k
        · have HE := Lib.hid (zLeave base C es (es.take (i - j)) wp HS.out.2.1 (by rw [HTL.out]; omega) (by rw [HTL.out]; omega))
          go_wp2_with (fail)
          refine HE.out.mono ?_
          rintro e w3 ⟨rfl, hC3, hK3⟩
          have g1 := own_old HS.out.1 hK3 hE2 hCE
          have g2 : CompL w3 base C es (es.take (i - (j + 1))) := by
            rw [HTL.out, List.take_take] at hC3
            rw [show i - (j + 1) = min (i - j - 1) (i - j) by omega]
            exact hC3
          have g3 := HS.out.2.2.trans (hK3.below hbw hC1)
          have HG := Lib.hid (And.intro g1 (And.intro g2 g3))
          clear HE hC3 hK3 g1 g2 g3
          go_wp2
          go_roundw
          case rel => exact ⟨j + 1, hlt2, by go_num, HG⟩
          case measure => simp [intOf]; omega
        · obtain rfl : j = k := by omega
          have HX : Hid (Calls Tryf.prog 13 #[.pointer (some ⟨C, 0, none⟩)] wp fun e w' => e = .returned (.int .i64 ((i : Int) - (j : Int) - 1)) ∧ wp = w') := Lib.hid (by
            have := zIdx base C es _ wp HS.out.2.1
            rw [HTL.out, show ((i - j : Nat) : Int) = (i : Int) - (j : Int) by omega] at this
            exact this)
          have HM : Hid (Calls Tryf.prog 14 #[.pointer (some ⟨C, 0, none⟩)] wp fun e w' => e = .returned (.int .i64 ((i : Int) - (j : Int))) ∧ wp = w') := Lib.hid (by
            have := zNum base C es _ wp HS.out.2.1
            rw [HTL.out, show ((i - j : Nat) : Int) = (i : Int) - (j : Int) by omega] at this
            exact this)
          have HCU := Lib.hid (zCur base C es _ wp HS.out.2.1 (by rw [HTL.out]; omega))
          go_wp2_with (fail)
          refine HX.out.mono ?_
          rintro e w' ⟨rfl, rfl⟩
          go_wp2_with (fail)
          refine HM.out.mono ?_
          rintro e w' ⟨rfl, rfl⟩
          go_wp2_with (fail)
          refine HCU.out.mono ?_
          rintro e w' ⟨rfl, m, rfl⟩
          obtain ⟨wq, hwq⟩ : ∃ wq : World, wq = wp.drewN m := ⟨_, rfl⟩
          have HQ : Hid (wq.ownsRow E 27 1 (.slice (some ⟨E, 0, none⟩) i i) i (ptrs es) ∧ CompL wq base C es (es.take (i - j)) ∧ Below w.heap.size w wq) := Lib.hid (by rw [hwq]; exact ⟨HS.out.1, HS.out.2.1, below_drewN HS.out.2.2⟩)
          rw [← hwq]
          clear hwq HCU HX HM HS
          have HEN := Lib.hid (zEnter base C es _ wq HQ.out.2.1 (by rw [HTL.out]; omega))
          have HREST : Hid (∀ w3 : World, CompL w3 base C (es ++ [wq.heap.size]) (es.take (i - j) ++ [wq.heap.size]) → KeptC base C wq w3 →
              (∀ t (ht : t < i), w3.cell? ⟨E, t, none⟩ = some (.pointer (some ⟨es[t]'(by rw [HEL.out]; exact ht), 0, none⟩))) ∧ (∀ t (ht : t < i), (binOp .eql 27 (.pointer (some ⟨es[t]'(by rw [HEL.out]; exact ht), 0, none⟩)) (.pointer (some ⟨wq.heap.size, 0, none⟩))).run Tryf.prog w3 = .ok (.bool false) w3)) := Lib.hid (by
            intro w3 h1 h2
            have ho := own_old HQ.out.1 h2 hE2 hCE
            refine ⟨fun t ht => own_ptr ho t (by rw [HEL.out]; exact ht), fun t ht => ptr_ne h1 (by simp) (by simp) ?_⟩
            have := (HQ.out.2.1.all _ (List.getElem_mem (l := es) (n := t) (by rw [HEL.out]; exact ht))).1.lt
            omega)
          have hsz0 := HQ.out.2.1.lt
          by_cases hd : i = j
          · have e0 : (es.take (i - j)).getLast? = none := by rw [show i - j = 0 by omega]; rfl
            have hz : ((i : Int) - (j : Int) == 0) = true := by simp; omega
            rw [e0]
            clear e0
            go_wp2_with (fail)
            refine HEN.out.mono ?_
            rintro e w3 ⟨rfl, hC3, hK3, hs3⟩
            have HC3 := Lib.hid hC3
            have HK3 := Lib.hid hK3
            have HCU3 : Hid (Calls Tryf.prog 10 #[.pointer (some ⟨C, 0, none⟩)] w3 fun e w' => e = .returned (.pointer (some ⟨wq.heap.size, 0, none⟩)) ∧ ∃ n, w' = w3.drewN n) := Lib.hid (by
              have h := zCur base C _ _ w3 hC3 (by simp; omega)
              rw [show (es.take (i - j) ++ [wq.heap.size]).getLast? = some wq.heap.size by simp] at h
              exact h)
            clear hC3 hK3 HEN
            go_wp2_with (fail)
            refine HCU3.out.mono ?_
            rintro e w' ⟨rfl, m2, rfl⟩
            obtain ⟨w4, hw4⟩ : ∃ w4 : World, w4 = w3.drewN m2 := ⟨_, rfl⟩
            have HC4 : Hid (CompL w4 base C (es ++ [wq.heap.size]) (es.take (i - j) ++ [wq.heap.size])) := Lib.hid (by rw [hw4]; exact HC3.out)
            have HK4 : Hid (KeptC base C wq w4) := Lib.hid (by rw [hw4]; exact ⟨HK3.out.os, HK3.out.tape, HK3.out.output, HK3.out.size, HK3.out.block⟩)
            have HR4 := Lib.hid (HREST.out w4 HC4.out HK4.out)
            have HX4 : Hid (Calls Tryf.prog 13 #[.pointer (some ⟨C, 0, none⟩)] w4 fun e w' => e = .returned (.int .i64 ((i : Int) - (j : Int))) ∧ w4 = w') := Lib.hid (by
              have h := zIdx base C _ _ w4 HC4.out
              rw [List.length_append, HTL.out, show (((i - j) + [wq.heap.size].length : Nat) : Int) - 1 = (i : Int) - (j : Int) by simp; omega] at h
              exact h)
            rw [← hw4]
            clear hw4 HCU3 HC3 HK3 HREST
            go_wp2
            go_loop [13] (fun tv => ∃ t : Nat, t ≤ i ∧ tv = .int .i64 t) (fun tv => i - (intOf tv).toNat)
            case atStart => exact ⟨0, Nat.zero_le _, rfl⟩
            case round =>
              obtain ⟨t, hti, rfl⟩ := hrel
              by_cases hlt3 : t < i
              · have hct := HR4.out.1 t hlt3
                have heq := HR4.out.2 t hlt3
                generalize es[t]'(by rw [HEL.out]; exact hlt3) = y at *
                have s1 : (0 : Int) ≤ (t : Int) := by omega
                have s2 : (t : Int) < (i : Int) := by omega
                go_wp2
                go_round
                case rel => exact ⟨t + 1, hlt3, by go_num⟩
                case measure => simp [intOf]; omega
              · obtain rfl : t = i := by omega
                go_wp2_with (fail)
                refine HX4.out.mono ?_
                rintro e w' ⟨rfl, rfl⟩
                go_wp2
                go_ret
                exact ⟨by simp, HQ.out.2.2.trans (HK4.out.below hbw hC1)⟩
          · have hx : i - j - 1 < es.length := by rw [HEL.out]; omega
            have e0 : (es.take (i - j)).getLast? = some es[i - j - 1] := by
              rw [List.getLast?_eq_getElem?, HTL.out, List.getElem?_take, if_pos (by omega), List.getElem?_eq_getElem hx]
            have hcx := own_ptr HQ.out.1 (i - j - 1) hx
            rw [e0]
            clear e0
            generalize es[i - j - 1] = x at *
            have hz : ((i : Int) - (j : Int) == 0) = false := by simp; omega
            have s1 : (0 : Int) ≤ (i : Int) - (j : Int) - 1 := by omega
            have s2 : (i : Int) - (j : Int) - 1 < (i : Int) := by omega
            have s3 : ((i : Int) - (j : Int) - 1).toNat = i - j - 1 := by omega
            go_wp2_with (fail)
            clear hcx s1 s2 s3
            refine HEN.out.mono ?_
            rintro e w3 ⟨rfl, hC3, hK3, hs3⟩
            have HC3 := Lib.hid hC3
            have HK3 := Lib.hid hK3
            have HCU3 : Hid (Calls Tryf.prog 10 #[.pointer (some ⟨C, 0, none⟩)] w3 fun e w' => e = .returned (.pointer (some ⟨wq.heap.size, 0, none⟩)) ∧ ∃ n, w' = w3.drewN n) := Lib.hid (by
              have h := zCur base C _ _ w3 hC3 (by simp; omega)
              rw [show (es.take (i - j) ++ [wq.heap.size]).getLast? = some wq.heap.size by simp] at h
              exact h)
            clear hC3 hK3 HEN
            go_wp2_with (fail)
            refine HCU3.out.mono ?_
            rintro e w' ⟨rfl, m2, rfl⟩
            obtain ⟨w4, hw4⟩ : ∃ w4 : World, w4 = w3.drewN m2 := ⟨_, rfl⟩
            have HC4 : Hid (CompL w4 base C (es ++ [wq.heap.size]) (es.take (i - j) ++ [wq.heap.size])) := Lib.hid (by rw [hw4]; exact HC3.out)
            have HK4 : Hid (KeptC base C wq w4) := Lib.hid (by rw [hw4]; exact ⟨HK3.out.os, HK3.out.tape, HK3.out.output, HK3.out.size, HK3.out.block⟩)
            have HR4 := Lib.hid (HREST.out w4 HC4.out HK4.out)
            have HX4 : Hid (Calls Tryf.prog 13 #[.pointer (some ⟨C, 0, none⟩)] w4 fun e w' => e = .returned (.int .i64 ((i : Int) - (j : Int))) ∧ w4 = w') := Lib.hid (by
              have h := zIdx base C _ _ w4 HC4.out
              rw [List.length_append, HTL.out, show (((i - j) + [wq.heap.size].length : Nat) : Int) - 1 = (i : Int) - (j : Int) by simp; omega] at h
              exact h)
            rw [← hw4]
            clear hw4 HCU3 HC3 HK3 HREST
            go_wp2
            go_loop [13] (fun tv => ∃ t : Nat, t ≤ i ∧ tv = .int .i64 t) (fun tv => i - (intOf tv).toNat)
            case atStart => exact ⟨0, Nat.zero_le _, rfl⟩
            case round =>
              obtain ⟨t, hti, rfl⟩ := hrel
              by_cases hlt3 : t < i
              · have hct := HR4.out.1 t hlt3
                have heq := HR4.out.2 t hlt3
                generalize es[t]'(by rw [HEL.out]; exact hlt3) = y at *
                have s1 : (0 : Int) ≤ (t : Int) := by omega
                have s2 : (t : Int) < (i : Int) := by omega
                go_wp2
                go_round
                case rel => exact ⟨t + 1, hlt3, by go_num⟩
                case measure => simp [intOf]; omega
              · obtain rfl : t = i := by omega
                go_wp2_with (fail)
                refine HX4.out.mono ?_
                rintro e w' ⟨rfl, rfl⟩
                go_wp2
                go_ret
                exact ⟨by simp, HQ.out.2.2.trans (HK4.out.below hbw hC1)⟩

theorem depthLaw (n k : Int) (w : World) (hn : n ≤ 9223372036854775807) (hn0 : -9223372036854775808 ≤ n) :
    Calls Tryf.prog 6 #[.int .i64 n, .int .i64 k] w fun e w' => e = .returned (.bool true) ∧ Below w.heap.size w w' := by
  by_cases h1 : n < 0
  · go_enter Tryf.func6, Tryf.ntmps6
    go_wp2
    go_ret
    exact ⟨rfl, Below.refl _ _⟩
  by_cases h2 : 65536 < n
  · go_enter Tryf.func6, Tryf.ntmps6
    go_wp2
    go_ret
    exact ⟨rfl, Below.refl _ _⟩
  by_cases h3 : k < 0
  · go_enter Tryf.func6, Tryf.ntmps6
    go_wp2
    go_ret
    exact ⟨rfl, Below.refl _ _⟩
  by_cases h4 : n < k
  · go_enter Tryf.func6, Tryf.ntmps6
    go_wp2
    go_ret
    exact ⟨rfl, Below.refl _ _⟩
  obtain ⟨N, rfl⟩ := Int.eq_ofNat_of_zero_le (show 0 ≤ n by omega)
  obtain ⟨K, rfl⟩ := Int.eq_ofNat_of_zero_le (show 0 ≤ k by omega)
  exact depthMain N K w (by omega) (by omega)
end Go.Proofs.YtiohjlnebeifaaaFmt.Lp
namespace Go.Proofs.YtiohjlnebeifaaaFmt
theorem fnLoopDepthAfterEntersAndLeaves.walk (a0 a1 : Int) (w : World) (w0 : (Lit.int .i64 a0).wf = true) (_w1 : (Lit.int .i64 a1).wf = true) :
    Calls Tryf.prog 6 #[.int .i64 a0, .int .i64 a1] w fun e w' => e = .returned (.bool true) ∧ RowKit.Below w.heap.size w w' := by
  simp [Lit.wf, IntKind.min, IntKind.max, IntKind.signed, IntKind.bits] at w0
  exact Lp.depthLaw a0 a1 w (by omega) (by omega)
end Go.Proofs.YtiohjlnebeifaaaFmt
