/- zzCountConsts: what it lays, CountObjects counts as the law says. -/
import Derived.Test.YtehfbmkaojlbeaaGreatCf
import Derived.Deep.Cut
import Derived.Laws.Cover2
namespace Go.Proofs.YtehfbmkaojlbeaaGreat.Co
open Go.ChangeShapes Go.WideShapes Go.ChangeAt Go.RowKit Go.Maps Go.Lib
theorem run_makeMap_hint {P : Program} {t k e : TypeId} (hu : P.underlying t = some (.map k e)) (m : Nat) (w : World) : (Instr.makeMap t (some (.int .i64 m))).run P w = .ok (.map (some w.heap.size)) (w.alloc (.map #[] 0)) := by
  simp [Instr.makeMap, run_underlying hu, asInt, asIntOf, Result.andThen]
set_option maxRecDepth 100000 in
set_option maxHeartbeats 4000000 in
theorem consts (pk ps : Option Addr) (lk ck ls cs n : Nat) (ks ms : Nat → Nat) (w : World) (hn : n ≤ 65536) (hlk : n ≤ lk) (hls : n ≤ ls) (hks : InRow w pk .u8 ks n) (hms : InRow w ps .u16 ms n) (hb8 : ∀ j, j < n → ks j < 256) (hb16 : ∀ j, j < n → ms j < 65536) :
    Calls Tryz.prog 7 #[.slice pk lk ck, .slice ps ls cs, .int .i64 n] w fun e w' => ∃ v vals, e = .returned v ∧ St w ks ms n v w' vals := by
  obtain ⟨iO, hiO⟩ := info_parts infoO
  have HO := Lib.hid hiO
  obtain ⟨w0, m0, o0, y0⟩ := run_make_own (P := Tryz.prog) w w.heap.size 29 53 iO .nilIface 1 Tryz.underlying29 HO.out.1 HO.out.2.1 HO.out.2.2.1 .i64 .i64 n (by rw [HO.out.2.2.2]; omega) (by unfold maxLen; omega) (Nat.le_refl _)
  have HS0 : Hid (St w ks ms 0 (.slice (some ⟨w.heap.size, 0, none⟩) 0 n) w0 []) := Lib.hid ⟨rfl, o0, fun j hj => by simp at hj, (Below.refl _ _).grown y0 (Nat.le_refl _) (fun j hj => by cases hj)⟩
  have HKS := Lib.hid hks
  have HMS := Lib.hid hms
  have H8 := Lib.hid hb8
  have H16 := Lib.hid hb16
  clear hiO o0 y0 hks hms hb8 hb16
  go_enter Tryz.func7, Tryz.ntmps7
  go_wp2
  go_loopw [7, 8] (fun vo vi wr => ∃ (i : Nat) (vals : List Value), vi = .int .i64 i ∧ i ≤ n ∧ Hid (St w ks ms i vo wr vals)) (fun _ vi _ => match vi with | .int _ z => n - z.toNat | _ => 0)
  case atStart => exact ⟨0, [], rfl, Nat.zero_le _, HS0⟩
  case round =>
    obtain ⟨i, vals, rfl, hi, HS⟩ := hrel
    by_cases hlt : i < n
    · have hlt' : (i : Int) < (n : Int) := by omega
      have hlk' : i < lk := by omega
      have hls' : i < ls := by omega
      obtain ⟨xk, rfl, ck0⟩ := HKS.out i hlt
      obtain ⟨xs, rfl, cs0⟩ := HMS.out i hlt
      have ck1 := (HS.out.low.cell (World.block_lt_of_cell? w _ ck0)).trans ck0
      have cs1 := (HS.out.low.cell (World.block_lt_of_cell? w _ cs0)).trans cs0
      have hk256 := H8.out i hlt
      have hm16 := H16.out i hlt
      obtain ⟨k, hk⟩ : ∃ k, k = ks i := ⟨_, rfl⟩
      obtain ⟨m, hm⟩ : ∃ m, m = ms i := ⟨_, rfl⟩
      rw [← hk] at ck1 hk256
      rw [← hm] at cs1 hm16
      have HK := Lib.hid hk
      have HM := Lib.hid hm
      clear ck0 cs0 hk hm
      have hk6 : k % 6 = 0 ∨ k % 6 = 1 ∨ k % 6 = 2 ∨ k % 6 = 3 ∨ k % 6 = 4 ∨ k % 6 = 5 := by omega
      rcases hk6 with h6 | h6 | h6 | h6 | h6 | h6
      · have h6' : (k : Int) % 6 = 0 := by omega
        have e0 : objN (ks i) (ms i) = 1 := by unfold objN; rw [← HK.out, if_pos h6]
        have HX : Hid (∀ W T p, LeafT T → Says (.iface T p) (objN (ks i) (ms i)) W) := Lib.hid (fun W T p hT => by rw [e0]; exact coLeaf T hT p W)
        clear e0 h6
        as_aux_lemma =>
          go_wp2_with (at_builtin; refine wp_out rfl _ _ rfl iO Tryz.underlying29 HO.out HS.out (World.grownBy_alloc _ _ _) _ _ (fun W _ => HX.out W _ _ (.inl rfl)) (by omega) rfl _ rfl (by simp) ?_; intro v1 w1 hS1; have HS1 := Lib.hid hS1; clear hS1)
          go_roundw
          case rel => exact ⟨i + 1, _, by simp, by omega, HS1⟩
          case measure => simp only []; omega
      · have h6' : (k : Int) % 6 = 1 := by omega
        have e0 : objN (ks i) (ms i) = 1 + m := by unfold objN; rw [← HK.out, ← HM.out, if_neg (by omega), if_neg (by omega)]
        clear h6
        as_aux_lemma =>
          obtain ⟨wo, hwo⟩ : ∃ wo : World, wo = wr := ⟨_, rfl⟩
          subst hwo
          obtain ⟨wm, mm, om, ym⟩ := run_make_own (P := Tryz.prog) wo wo.heap.size 29 53 iO .nilIface 1 Tryz.underlying29 HO.out.1 HO.out.2.1 HO.out.2.2.1 .i64 .i64 m (by rw [HO.out.2.2.2]; omega) (by unfold maxLen; omega) (Nat.le_refl _)
          have HA0 : Hid (Ar wo (.slice (some ⟨wo.heap.size, 0, none⟩) 0 m) 0 wm) := Lib.hid ⟨[], rfl, fun x hx => by simp at hx, om, ym⟩
          have E0 := Lib.hid e0
          clear om ym e0
          go_upto_region 13 with (fail)
          rw [h6']
          clear h6'
          go_wp2
          go_loopw [10, 11] (fun va vj wi => ∃ j : Nat, vj = .int .i64 j ∧ j ≤ m ∧ Hid (Ar wo va j wi)) (fun _ vj _ => match vj with | .int _ z => m - z.toNat | _ => 0)
          case atStart => exact ⟨0, rfl, Nat.zero_le _, HA0⟩
          case round =>
            obtain ⟨j, rfl, hj, HA⟩ := hrel
            by_cases hjm : j < m
            · have hjm' : (j : Int) < (m : Int) := by omega
              go_wp2_with (at_builtin; refine wp_leaf rfl _ _ rfl iO Tryz.underlying29 HO.out HA.out (World.grownBy_alloc _ _ _) _ _ (.inl rfl) (by omega) rfl _ rfl (by simp) ?_; intro v1 w1 hA1; have HA1 := Lib.hid hA1; clear hA1)
              go_roundw
              case rel => exact ⟨j + 1, by simp, by omega, HA1⟩
              case measure => simp only []; omega
            · have hjm' : ¬ (j : Int) < (m : Int) := by omega
              obtain rfl : j = m := by omega
              obtain ⟨q, cap, rfl, _, hL⟩ := HA.out.leaves
              have hgr := HA.out.grown
              have HX : Hid (∀ W, (wr.alloc (.cells #[.slice q j cap] 43)).grownBy W u7.ownBlock → Says (.iface 41 (.pointer (some ⟨wr.heap.size, 0, none⟩))) (objN (ks i) (ms i)) W) := Lib.hid (fun W hW => by
                obtain ⟨x1, x2⟩ := box_at hgr.size HS.out.old hW
                rw [E0.out]
                exact coArr _ j cap q W x1 (hL W _ x2 HS.out.old) (by omega))
              have HG : Hid (wo.grownBy (wr.alloc (.cells #[.slice q j cap] 43)) none) := Lib.hid (hgr.andThen (World.grownBy_alloc _ _ none) (fun j hj => by cases hj))
              clear hgr hL
              go_wp2_with (at_builtin; refine wp_out rfl _ _ rfl iO Tryz.underlying29 HO.out HS.out HG.out _ _ HX.out (by omega) rfl _ rfl (by simp) ?_; intro v1 w1 hS1; have HS1 := Lib.hid hS1; clear hS1)
              go_roundw
              case rel => exact ⟨i + 1, _, by simp, by omega, HS1⟩
              case measure => simp only []; omega
      · have h6' : (k : Int) % 6 = 2 := by omega
        have e0 : objN (ks i) (ms i) = 1 + m := by unfold objN; rw [← HK.out, ← HM.out, if_neg (by omega), if_neg (by omega)]
        clear h6
        as_aux_lemma =>
          obtain ⟨wo, hwo⟩ : ∃ wo : World, wo = wr := ⟨_, rfl⟩
          subst hwo
          obtain ⟨wm, mm, om, ym⟩ := run_make_own (P := Tryz.prog) wo wo.heap.size 29 53 iO .nilIface 1 Tryz.underlying29 HO.out.1 HO.out.2.1 HO.out.2.2.1 .i64 .i64 m (by rw [HO.out.2.2.2]; omega) (by unfold maxLen; omega) (Nat.le_refl _)
          have HA0 : Hid (Ar wo (.slice (some ⟨wo.heap.size, 0, none⟩) 0 m) 0 wm) := Lib.hid ⟨[], rfl, fun x hx => by simp at hx, om, ym⟩
          have E0 := Lib.hid e0
          clear om ym e0
          go_upto_region 13 with (fail)
          rw [h6']
          clear h6'
          go_wp2
          go_loopw [12, 13] (fun va vj wi => ∃ j : Nat, vj = .int .i64 j ∧ j ≤ m ∧ Hid (Ar wo va j wi)) (fun _ vj _ => match vj with | .int _ z => m - z.toNat | _ => 0)
          case atStart => exact ⟨0, rfl, Nat.zero_le _, HA0⟩
          case round =>
            obtain ⟨j, rfl, hj, HA⟩ := hrel
            by_cases hjm : j < m
            · have hjm' : (j : Int) < (m : Int) := by omega
              have HI := Lib.hid (itoa j wr (by omega))
              go_wp2_with (fail)
              refine HI.out.mono ?_
              rintro e w5 ⟨rfl, hb5⟩
              have hg5 := (grown_of_below hb5).andThen (World.grownBy_alloc w5 (.cells #[.string ⟨(decDigits j).toArray⟩, .slice none 0 0] 48) none) (fun j hj => by cases hj)
              clear hb5
              go_wp2_with (at_builtin; refine wp_leaf rfl _ _ rfl iO Tryz.underlying29 HO.out HA.out hg5 _ _ (.inr (.inl rfl)) (by omega) rfl _ rfl (by simp) ?_; intro v1 w1 hA1; have HA1 := Lib.hid hA1; clear hA1)
              go_roundw
              case rel => exact ⟨j + 1, by simp, by omega, HA1⟩
              case measure => simp only []; omega
            · have hjm' : ¬ (j : Int) < (m : Int) := by omega
              obtain rfl : j = m := by omega
              obtain ⟨q, cap, rfl, _, hL⟩ := HA.out.leaves
              have hgr := HA.out.grown
              have HX : Hid (∀ W, (wr.alloc (.cells #[.slice q j cap] 50)).grownBy W u7.ownBlock → Says (.iface 49 (.pointer (some ⟨wr.heap.size, 0, none⟩))) (objN (ks i) (ms i)) W) := Lib.hid (fun W hW => by
                obtain ⟨x1, x2⟩ := box_at hgr.size HS.out.old hW
                rw [E0.out]
                exact coIArr _ j cap q W x1 (hL W _ x2 HS.out.old) (by omega))
              have HG : Hid (wo.grownBy (wr.alloc (.cells #[.slice q j cap] 50)) none) := Lib.hid (hgr.andThen (World.grownBy_alloc _ _ none) (fun j hj => by cases hj))
              clear hgr hL
              go_wp2_with (at_builtin; refine wp_out rfl _ _ rfl iO Tryz.underlying29 HO.out HS.out HG.out _ _ HX.out (by omega) rfl _ rfl (by simp) ?_; intro v1 w1 hS1; have HS1 := Lib.hid hS1; clear hS1)
              go_roundw
              case rel => exact ⟨i + 1, _, by simp, by omega, HS1⟩
              case measure => simp only []; omega
      · have h6' : (k : Int) % 6 = 3 := by omega
        have e0 : objN (ks i) (ms i) = 1 + m := by unfold objN; rw [← HK.out, ← HM.out, if_neg (by omega), if_neg (by omega)]
        clear h6
        as_aux_lemma =>
          obtain ⟨wo, hwo⟩ : ∃ wo : World, wo = wr := ⟨_, rfl⟩
          subst hwo
          have hmm := run_makeMap_hint (P := Tryz.prog) Tryz.underlying51 m wo
          have HP0 : Hid (Mp wo 107 wo.heap.size 0 (wo.alloc (.map #[] 0))) := Lib.hid ⟨.map [], World.ownsMap_made _ _ _ _, rfl, fun k hk => by simp [Maps.has] at hk, World.grownBy_alloc _ _ _, Nat.le_refl _⟩
          have E0 := Lib.hid e0
          clear e0
          go_upto_region 13 with (fail)
          rw [h6']
          clear h6'
          go_wp2
          go_loopw [15] (fun vj wi => ∃ j : Nat, vj = .int .i64 j ∧ j ≤ m ∧ Hid (Mp wo 107 wo.heap.size j wi)) (fun vj _ => match vj with | .int _ z => m - z.toNat | _ => 0)
          case atStart => exact ⟨0, rfl, Nat.zero_le _, HP0⟩
          case round =>
            obtain ⟨j, rfl, hj, HP⟩ := hrel
            by_cases hjm : j < m
            · have hjm' : (j : Int) < (m : Int) := by omega
              obtain ⟨D, d1, d2, d3, d4, d5⟩ := HP.out
              have HI0 := itoa j wr (by omega)
              have htl := text_size (t := j) (by omega)
              obtain ⟨tx, htx⟩ : ∃ tx : ByteArray, tx = ⟨(decDigits j).toArray⟩ := ⟨_, rfl⟩
              rw [← htx] at HI0 htl
              have HI := Lib.hid HI0
              have HTX := Lib.hid htx
              clear HI0 htx
              go_wp2_with (fail)
              refine HI.out.mono ?_
              rintro e w5 ⟨rfl, hb5⟩
              have hg5 := grown_of_below hb5
              have hne : ∀ r, (none : Option Nat) = r → some wo.heap.size ≠ r := fun r e => by rw [← e]; simp
              have d1' := (d1.kept hg5 (by simp)).alloc (.cells #[.int .i64 j] 40)
              have d4' := (d4.andThen hg5 (fun j hj => by cases hj)).andThen (World.grownBy_alloc w5 (.cells #[.int .i64 j] 40) none) (fun j hj => by cases hj)
              clear hb5 hg5 hne
              go_wp2_with (first | (at_mapUpdate; refine wpList_mapUpdate_own _ rfl _ _ _ 51 rfl 9 53 law Tryz.underlying51 leafR wo.heap.size j D rfl d1' (by unfold maxLen; omega) _ _ (.string (107 :: decDigits j)) rfl rfl (by rw [HTX.out]; exact key_lit 107 (by omega)) .nil [] (leafR_mk (.inl rfl) _) ?_; intro w1 hown1 hgrow1) | go_in)
              have HP1 := Lib.hid (Mp.put D d1' d2 d3 d4' d5 rfl hown1 hgrow1)
              clear hown1 hgrow1 d1 d2 d3 d4 d5 d1' d4'
              go_roundw
              case rel => exact ⟨j + 1, by simp, by omega, HP1⟩
              case measure => simp only []; omega
            · have hjm' : ¬ (j : Int) < (m : Int) := by omega
              obtain rfl : j = m := by omega
              obtain ⟨D, d1, d2, d3, d4, d5⟩ := HP.out
              have HX : Hid (∀ W, (wr.alloc (.cells #[.map (some wo.heap.size)] 56)).grownBy W u7.ownBlock → Says (.iface 54 (.pointer (some ⟨wr.heap.size, 0, none⟩))) (objN (ks i) (ms i)) W) := Lib.hid (fun W hW => by
                obtain ⟨x1, x2⟩ := box_at d4.size HS.out.old hW
                have d1' := d1.kept x2 (fun e => by have := HS.out.old _ e.symm; omega)
                rw [E0.out, ← d2]
                exact coMap _ wo.heap.size j D W x1 d1' (by omega))
              have HG : Hid (wo.grownBy (wr.alloc (.cells #[.map (some wo.heap.size)] 56)) none) := Lib.hid (d4.andThen (World.grownBy_alloc _ _ none) (fun j hj => by cases hj))
              clear d1 d2 d3 d4 d5
              go_wp2_with (at_builtin; refine wp_out rfl _ _ rfl iO Tryz.underlying29 HO.out HS.out HG.out _ _ HX.out (by omega) rfl _ rfl (by simp) ?_; intro v1 w1 hS1; have HS1 := Lib.hid hS1; clear hS1)
              go_roundw
              case rel => exact ⟨i + 1, _, by simp, by omega, HS1⟩
              case measure => simp only []; omega
      · have h6' : (k : Int) % 6 = 4 := by omega
        have e0 : objN (ks i) (ms i) = 1 + (1 + m) := by unfold objN; rw [← HK.out, ← HM.out, if_neg (by omega), if_pos h6]; omega
        clear h6
        as_aux_lemma =>
          obtain ⟨wo, hwo⟩ : ∃ wo : World, wo = wr := ⟨_, rfl⟩
          subst hwo
          obtain ⟨wm, mm, om, ym⟩ := run_make_own (P := Tryz.prog) wo wo.heap.size 29 53 iO .nilIface 1 Tryz.underlying29 HO.out.1 HO.out.2.1 HO.out.2.2.1 .i64 .i64 m (by rw [HO.out.2.2.2]; omega) (by unfold maxLen; omega) (Nat.le_refl _)
          have HA0 : Hid (Ar wo (.slice (some ⟨wo.heap.size, 0, none⟩) 0 m) 0 wm) := Lib.hid ⟨[], rfl, fun x hx => by simp at hx, om, ym⟩
          have E0 := Lib.hid e0
          clear om ym e0
          go_upto_region 13 with (fail)
          rw [h6']
          clear h6'
          go_wp2
          go_loopw [16, 17] (fun va vj wi => ∃ j : Nat, vj = .int .i64 j ∧ j ≤ m ∧ Hid (Ar wo va j wi)) (fun _ vj _ => match vj with | .int _ z => m - z.toNat | _ => 0)
          case atStart => exact ⟨0, rfl, Nat.zero_le _, HA0⟩
          case round =>
            obtain ⟨j, rfl, hj, HA⟩ := hrel
            by_cases hjm : j < m
            · have hjm' : (j : Int) < (m : Int) := by omega
              go_wp2_with (at_builtin; refine wp_leaf rfl _ _ rfl iO Tryz.underlying29 HO.out HA.out (World.grownBy_alloc _ _ _) _ _ (.inr (.inr (.inl rfl))) (by omega) rfl _ rfl (by simp) ?_; intro v1 w1 hA1; have HA1 := Lib.hid hA1; clear hA1)
              go_roundw
              case rel => exact ⟨j + 1, by simp, by omega, HA1⟩
              case measure => simp only []; omega
            · have hjm' : ¬ (j : Int) < (m : Int) := by omega
              obtain rfl : j = m := by omega
              obtain ⟨q, cap, rfl, _, hL⟩ := HA.out.leaves
              have hgr := HA.out.grown
              have HX : Hid (∀ W, ((wr.alloc (.cells #[.slice q j cap] 43)).alloc (.cells #[.iface 41 (.pointer (some ⟨wr.heap.size, 0, none⟩))] 62)).grownBy W u7.ownBlock → Says (.iface 60 (.pointer (some ⟨wr.heap.size + 1, 0, none⟩))) (objN (ks i) (ms i)) W) := Lib.hid (fun W hW => by
                obtain ⟨x1, x2⟩ := box_at (by have := hgr.size; simp; omega) HS.out.old hW
                obtain ⟨x3, x4⟩ := box_at hgr.size HS.out.old x2
                rw [show (wr.alloc (.cells #[.slice q j cap] 43)).heap.size = wr.heap.size + 1 by simp] at x1
                rw [E0.out]
                exact coErr _ _ _ W x1 (coArr _ j cap q W x3 (hL W _ x4 HS.out.old) (by omega)) (by omega))
              have HG : Hid (wo.grownBy ((wr.alloc (.cells #[.slice q j cap] 43)).alloc (.cells #[.iface 41 (.pointer (some ⟨wr.heap.size, 0, none⟩))] 62)) none) := Lib.hid ((hgr.andThen (World.grownBy_alloc _ _ none) (fun j hj => by cases hj)).andThen (World.grownBy_alloc _ _ none) (fun j hj => by cases hj))
              clear hgr hL
              go_wp2_with (at_builtin; refine wp_out rfl _ _ rfl iO Tryz.underlying29 HO.out HS.out HG.out _ _ HX.out (by omega) rfl _ rfl (by simp) ?_; intro v1 w1 hS1; have HS1 := Lib.hid hS1; clear hS1)
              go_roundw
              case rel => exact ⟨i + 1, _, by simp, by omega, HS1⟩
              case measure => simp only []; omega
      · have h6' : (k : Int) % 6 = 5 := by omega
        have e0 : objN (ks i) (ms i) = 1 + m := by unfold objN; rw [← HK.out, ← HM.out, if_neg (by omega), if_neg (by omega)]
        clear h6
        as_aux_lemma =>
          obtain ⟨wo, hwo⟩ : ∃ wo : World, wo = wr := ⟨_, rfl⟩
          subst hwo
          have hmm := run_makeMap_hint (P := Tryz.prog) Tryz.underlying51 m wo
          have HP0 : Hid (Mp wo 102 wo.heap.size 0 (wo.alloc (.map #[] 0))) := Lib.hid ⟨.map [], World.ownsMap_made _ _ _ _, rfl, fun k hk => by simp [Maps.has] at hk, World.grownBy_alloc _ _ _, Nat.le_refl _⟩
          have E0 := Lib.hid e0
          clear e0
          go_upto_region 13 with (fail)
          rw [h6']
          clear h6'
          go_wp2
          go_loopw [19] (fun vj wi => ∃ j : Nat, vj = .int .i64 j ∧ j ≤ m ∧ Hid (Mp wo 102 wo.heap.size j wi)) (fun vj _ => match vj with | .int _ z => m - z.toNat | _ => 0)
          case atStart => exact ⟨0, rfl, Nat.zero_le _, HP0⟩
          case round =>
            obtain ⟨j, rfl, hj, HP⟩ := hrel
            by_cases hjm : j < m
            · have hjm' : (j : Int) < (m : Int) := by omega
              obtain ⟨D, d1, d2, d3, d4, d5⟩ := HP.out
              have HI0 := itoa j wr (by omega)
              have htl := text_size (t := j) (by omega)
              obtain ⟨tx, htx⟩ : ∃ tx : ByteArray, tx = ⟨(decDigits j).toArray⟩ := ⟨_, rfl⟩
              rw [← htx] at HI0 htl
              have HI := Lib.hid HI0
              have HTX := Lib.hid htx
              clear HI0 htx
              go_wp2_with (fail)
              refine HI.out.mono ?_
              rintro e w5 ⟨rfl, hb5⟩
              have hg5 := grown_of_below hb5
              have hne : ∀ r, (none : Option Nat) = r → some wo.heap.size ≠ r := fun r e => by rw [← e]; simp
              have hcf := run_convert_int_float (P := Tryz.prog) (w := w5) 3 64 .i64 .f64 (j : Int) (by rw [Tryz.underlying3]; rfl) Tryz.underlying64
              have d1a : ∀ o, (w5.alloc o).ownsMap Tryz.prog 9 leafR wo.heap.size j D := fun o => (d1.kept hg5 (by simp)).alloc o
              have d4a : ∀ o, wo.grownBy (w5.alloc o) none := fun o => (d4.andThen hg5 (fun j hj => by cases hj)).andThen (World.grownBy_alloc w5 o none) (fun j hj => by cases hj)
              clear hb5 hg5 hne
              go_wp2_with (first | (at_mapUpdate; refine wpList_mapUpdate_own _ rfl _ _ _ 51 rfl 9 53 law Tryz.underlying51 leafR wo.heap.size j D rfl (d1a _) (by unfold maxLen; omega) _ _ (.string (102 :: decDigits j)) rfl rfl (by rw [HTX.out]; exact key_lit 102 (by omega)) .nil [] (leafR_mk (.inr (.inr (.inr rfl))) _) ?_; intro w1 hown1 hgrow1) | go_in)
              have HP1 := Lib.hid (Mp.put D (d1a _) d2 d3 (d4a _) d5 rfl hown1 hgrow1)
              clear hown1 hgrow1 d1 d2 d3 d4 d5 d1a d4a
              go_roundw
              case rel => exact ⟨j + 1, by simp, by omega, HP1⟩
              case measure => simp only []; omega
            · have hjm' : ¬ (j : Int) < (m : Int) := by omega
              obtain rfl : j = m := by omega
              obtain ⟨D, d1, d2, d3, d4, d5⟩ := HP.out
              have HX : Hid (∀ W, (wr.alloc (.cells #[.map (some wo.heap.size)] 68)).grownBy W u7.ownBlock → Says (.iface 67 (.pointer (some ⟨wr.heap.size, 0, none⟩))) (objN (ks i) (ms i)) W) := Lib.hid (fun W hW => by
                obtain ⟨x1, x2⟩ := box_at d4.size HS.out.old hW
                have d1' := d1.kept x2 (fun e => by have := HS.out.old _ e.symm; omega)
                rw [E0.out, ← d2]
                exact coIMap _ wo.heap.size j D W x1 d1' (by omega))
              have HG : Hid (wo.grownBy (wr.alloc (.cells #[.map (some wo.heap.size)] 68)) none) := Lib.hid (d4.andThen (World.grownBy_alloc _ _ none) (fun j hj => by cases hj))
              clear d1 d2 d3 d4 d5
              go_wp2_with (at_builtin; refine wp_out rfl _ _ rfl iO Tryz.underlying29 HO.out HS.out HG.out _ _ HX.out (by omega) rfl _ rfl (by simp) ?_; intro v1 w1 hS1; have HS1 := Lib.hid hS1; clear hS1)
              go_roundw
              case rel => exact ⟨i + 1, _, by simp, by omega, HS1⟩
              case measure => simp only []; omega
    · have hlt' : ¬ (i : Int) < (n : Int) := by omega
      have hin : i = n := by omega
      subst hin
      go_wp2
      go_ret
      exact ⟨_, rfl, vals, HS.out⟩
end Go.Proofs.YtehfbmkaojlbeaaGreat.Co
