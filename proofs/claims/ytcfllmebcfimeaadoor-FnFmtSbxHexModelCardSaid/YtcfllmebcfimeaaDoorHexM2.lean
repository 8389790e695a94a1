/- The laws' own hex text of a slice's first bytes (n002_112). -/
import Derived.Test.YtcfllmebcfimeaaDoorHexW
import Derived.Test.YtcfllmebcfimeaaDoorRow2
import Derived.LoopTactic
namespace Go.Proofs.YtcfllmebcfimeaaDoor.Fm
open Go.ChangeShapes Go.WideShapes Go.ChangeAt Go.RowKit Go.Fmt

set_option maxRecDepth 100000 in
set_option maxHeartbeats 4000000 in
theorem zzHexModel2 (q : Option Addr) (c : Nat) (src : List UInt8) (K : Nat) (D : ByteArray) (sh sp : Bool) (w : World) (hr : RowAt w q src.length src) (hK0 : 0 < K) (hK : K ≤ src.length) (hs : src.length ≤ 1048576) (hd : 17 ≤ D.size) :
    Calls Tryd.prog 44 #[.slice q src.length c, .int .i64 K, .string D, .bool sh, .bool sp] w (NewRow w (hexText D sh sp src K)) := by
  rw [← hexM_text]
  have hI := Lib.hid info5
  have HC := Lib.hid (show 5 * (K : Int) + 2 = ((5 * K + 2 : Nat) : Int) by omega)
  have hq : ∃ x, q = some x ∧ ∀ j (hj : j < src.length), w.cell? (x.add j) = some (.int .u8 (src[j].toNat : Int)) := by
    rcases hr with ⟨_, _, rfl⟩ | ⟨x, h1, _, h3⟩
    · simp at hK; omega
    · exact ⟨x, h1, h3⟩
  obtain ⟨x, rfl, hx⟩ := hq
  have HX := Lib.hid hx
  clear hx hr
  have hd16 : 16 < D.size := by omega
  have hD := dig_eq D 16 hd16
  have HDD := Lib.hid hD
  clear hD
  go_enter Tryd.func44, Tryd.ntmps44
  obtain ⟨c1, hc1⟩ : ∃ c1 : Bool, c1 = decide (sh = true ∧ sp = false ∧ 0 < K) := ⟨_, rfl⟩
  have HC1 := Lib.hid hc1
  clear hc1
  go_upto_region 2 with ((at_make; refine make_cap rfl _ _ 22 rfl w.heap.size 5 Tryd.underlying22 hI.out _ (5 * K + 2) rfl rfl HC.out (by omega) (Nat.le_refl _) ?_; intro w1 hown1 hb1))
  refine wp_cut (fun a' w' => ∃ g : Nat → Value, ((g 11 = .slice (some ⟨w.heap.size, 0, none⟩) 0 (5 * K + 2) ∧ g 22 = .bool c1) ∧ w1 = w') ∧ a' = ⟨#[.slice (some x) src.length c, .int .i64 K, .string D, .bool sh, .bool sp, g 5, g 6, g 7, g 8, g 9, g 10, g 11, g 12, g 13, g 14, g 15, g 16, g 17, g 18, g 19, g 20, g 21, g 22, g 23, g 24, g 25, g 26, g 27, g 28, g 29, g 30, g 31, g 32, g 33, g 34, g 35, g 36, g 37, g 38, g 39, g 40, g 41, g 42, g 43, g 44, g 45, g 46, g 47, g 48, g 49, g 50, g 51, g 52, g 53, g 54, g 55, g 56, g 57, g 58, g 59, g 60, g 61, g 62, g 63, g 64, g 65], []⟩) ?rest ?first
  case first =>
    intro _ _ _ _
    cases sh <;> cases sp
    all_goals
      go_wp2
      refine Met.intro ?_
      go_step
      refine meetG (by kernel_rfl) ?_
      refine ⟨⟨rfl, ?_⟩, rfl⟩
      rw [HC1.out]
      refine congrArg Value.bool ?_
      simp [hK0]
  case rest =>
    rintro _ wc ⟨g, ⟨⟨h11, h22⟩, rfl⟩, rfl⟩
    rw [h11, h22]
    clear h11 h22
    go_upto_if 22 with (fail)
    refine wp_cut (fun a' w' => ∃ g : Nat → Value, (∃ (p2 : Option Addr) (cap2 : Nat), g 11 = .slice p2 (hexM0 D sh sp K).length cap2 ∧ w'.ownsRow w.heap.size 5 1 (.slice p2 (hexM0 D sh sp K).length cap2) (hexM0 D sh sp K).length (bcells (hexM0 D sh sp K)) ∧ 0 < cap2 ∧ Below w.heap.size w w') ∧ a' = ⟨#[.slice (some x) src.length c, .int .i64 K, .string D, .bool sh, .bool sp, g 5, g 6, g 7, g 8, g 9, g 10, g 11, g 12, g 13, g 14, g 15, g 16, g 17, g 18, g 19, g 20, g 21, g 22, g 23, g 24, g 25, g 26, g 27, g 28, g 29, g 30, g 31, g 32, g 33, g 34, g 35, g 36, g 37, g 38, g 39, g 40, g 41, g 42, g 43, g 44, g 45, g 46, g 47, g 48, g 49, g 50, g 51, g 52, g 53, g 54, g 55, g 56, g 57, g 58, g 59, g 60, g 61, g 62, g 63, g 64, g 65], []⟩) ?rest ?first
    case first =>
      intro _ _ _ _
      cases c1
      · have hH : hexM0 D sh sp K = [] := by unfold hexM0; rw [if_neg (by simpa using HC1.out.symm)]
        have HH := Lib.hid hH
        clear hH
        go_wp2
        refine Met.intro ?_
        go_step
        refine meetG (by kernel_rfl) ?_
        rw [HH.out]
        exact ⟨_, _, rfl, hown1, by omega, hb1⟩
      · have hH : hexM0 D sh sp K = [48, dig D 16] := by unfold hexM0; rw [if_pos (by simpa using HC1.out.symm)]
        have HH := Lib.hid hH
        clear hH
        have hbz := hb1.size
        go_wp2_with ((at_builtin; refine append_new (w0 := w1) rfl _ _ 22 rfl w.heap.size 5 Tryd.underlying22 hI.out _ [] _ rfl hown1 _ [48, dig D 16] (cells_pre D hd16) _ rfl (by simp) hbz ?_; intro p2 cap2 w2 hown2 hle2 hcap2 hgrow2))
        refine Met.intro ?_
        go_step
        refine meetG (by kernel_rfl) ?_
        rw [HH.out]
        exact ⟨p2, cap2, rfl, by simpa using hown2, by simp at hle2; omega, hb1.trans ((Below.refl _ w1).grown hgrow2 hbz (fun k hk => (hown1.lt k hk).1))⟩
    case rest =>
      rintro _ w2 ⟨g, ⟨p2, cap2, h11, hown2, hcp2, hb2⟩, rfl⟩
      rw [h11]
      clear h11 hown1 hb1
      obtain ⟨xs0, hxs0⟩ : ∃ x, x = hexM0 D sh sp K := ⟨_, rfl⟩
      rw [← hxs0] at hown2 ⊢
      have HX0 := Lib.hid hxs0
      clear hxs0
      go_wp2_with (fail)
      refine wp_loop (fun a' w' => ∃ g : Nat → Value, (∃ (p3 : Option Addr) (xs : List UInt8) (k2 cap3 : Nat), g 11 = .slice p3 xs.length cap3 ∧ g 12 = .int .i64 k2 ∧ k2 ≤ K ∧ Hid (xs = hexM D sh sp src K k2) ∧ w'.ownsRow w.heap.size 5 1 (.slice p3 xs.length cap3) xs.length (bcells xs) ∧ 0 < cap3 ∧ Below w.heap.size w w') ∧ a' = ⟨#[.slice (some x) src.length c, .int .i64 K, .string D, .bool sh, .bool sp, g 5, g 6, g 7, g 8, g 9, g 10, g 11, g 12, g 13, g 14, g 15, g 16, g 17, g 18, g 19, g 20, g 21, g 22, g 23, g 24, g 25, g 26, g 27, g 28, g 29, g 30, g 31, g 32, g 33, g 34, g 35, g 36, g 37, g 38, g 39, g 40, g 41, g 42, g 43, g 44, g 45, g 46, g 47, g 48, g 49, g 50, g 51, g 52, g 53, g 54, g 55, g 56, g 57, g 58, g 59, g 60, g 61, g 62, g 63, g 64, g 65], []⟩) (fun a' _ => K - (intOf (a'.tmps.getD 12 undef)).toNat) ?start ?round
      case start =>
        refine meetG (by kernel_rfl) ?_
        exact ⟨p2, xs0, 0, cap2, rfl, rfl, Nat.zero_le _, Lib.hid (by rw [HX0.out]; rfl), hown2, hcp2, hb2⟩
      case round =>
        rintro _ wr ⟨g, ⟨p3, xs, k2, cap3, h11, h12, hk2, HXs, hown3, hcp3, hb3⟩, rfl⟩
        rw [h11, h12]
        clear h11 h12 hown2 hb2
        have hbr := hb3.size
        have hxl : xs.length ≤ 5 * k2 + 2 := by rw [HXs.out]; exact hexM_length _ _ _ _ _ _
        by_cases hlt : k2 < K
        · obtain ⟨c2, hc2⟩ : ∃ c2 : Bool, c2 = decide (sp = true ∧ 0 < k2) := ⟨_, rfl⟩
          have HC2 := Lib.hid hc2
          clear hc2
          go_upto_region 7 with (fail)
          refine wp_cut (fun a' w' => ∃ g : Nat → Value, ((g 11 = .slice p3 xs.length cap3 ∧ g 12 = .int .i64 k2 ∧ g 37 = .bool c2) ∧ wr = w') ∧ a' = ⟨#[.slice (some x) src.length c, .int .i64 K, .string D, .bool sh, .bool sp, g 5, g 6, g 7, g 8, g 9, g 10, g 11, g 12, g 13, g 14, g 15, g 16, g 17, g 18, g 19, g 20, g 21, g 22, g 23, g 24, g 25, g 26, g 27, g 28, g 29, g 30, g 31, g 32, g 33, g 34, g 35, g 36, g 37, g 38, g 39, g 40, g 41, g 42, g 43, g 44, g 45, g 46, g 47, g 48, g 49, g 50, g 51, g 52, g 53, g 54, g 55, g 56, g 57, g 58, g 59, g 60, g 61, g 62, g 63, g 64, g 65], []⟩) ?rest ?first
          case first =>
            intro _ _ _ _
            cases sp
            all_goals
              go_wp2
              refine Met.intro ?_
              go_step
              refine meetG (by kernel_rfl) ?_
              refine ⟨⟨rfl, rfl, ?_⟩, rfl⟩
              rw [HC2.out]
              refine congrArg Value.bool ?_
              simp
          case rest =>
            rintro _ wc ⟨g, ⟨⟨h11, h12, h37⟩, rfl⟩, rfl⟩
            rw [h11, h12, h37]
            clear h11 h12 h37
            go_upto_if 37 with (fail)
            refine wp_cut (fun a' w' => ∃ g : Nat → Value, ((g 12 = .int .i64 k2) ∧ ∃ (p4 : Option Addr) (cap4 : Nat), g 11 = .slice p4 (xs ++ hexS1 sp k2).length cap4 ∧ w'.ownsRow w.heap.size 5 1 (.slice p4 (xs ++ hexS1 sp k2).length cap4) (xs ++ hexS1 sp k2).length (bcells (xs ++ hexS1 sp k2)) ∧ 0 < cap4 ∧ Below w.heap.size w w') ∧ a' = ⟨#[.slice (some x) src.length c, .int .i64 K, .string D, .bool sh, .bool sp, g 5, g 6, g 7, g 8, g 9, g 10, g 11, g 12, g 13, g 14, g 15, g 16, g 17, g 18, g 19, g 20, g 21, g 22, g 23, g 24, g 25, g 26, g 27, g 28, g 29, g 30, g 31, g 32, g 33, g 34, g 35, g 36, g 37, g 38, g 39, g 40, g 41, g 42, g 43, g 44, g 45, g 46, g 47, g 48, g 49, g 50, g 51, g 52, g 53, g 54, g 55, g 56, g 57, g 58, g 59, g 60, g 61, g 62, g 63, g 64, g 65], []⟩) ?rest ?first
            case first =>
              intro _ _ _ _
              cases c2
              · have hH : xs ++ hexS1 sp k2 = xs := by unfold hexS1; rw [if_neg (by simpa using HC2.out.symm)]; simp
                have HH := Lib.hid hH
                clear hH
                go_wp2
                refine Met.intro ?_
                go_step
                refine meetG (by kernel_rfl) ?_
                rw [HH.out]
                exact ⟨rfl, p3, cap3, rfl, hown3, hcp3, hb3⟩
              · have hH : xs ++ hexS1 sp k2 = xs ++ [32] := by unfold hexS1; rw [if_pos (by simpa using HC2.out.symm)]
                have HH := Lib.hid hH
                clear hH
                go_wp2_with ((at_builtin; refine append_new (w0 := wr) rfl _ _ 22 rfl w.heap.size 5 Tryd.underlying22 hI.out p3 xs cap3 rfl hown3 _ [32] cells_sp _ rfl (by simp; omega) hbr ?_; intro p4 cap4 w4 hown4 hle4 hcap4 hgrow4))
                refine Met.intro ?_
                go_step
                refine meetG (by kernel_rfl) ?_
                rw [HH.out]
                have e1 : (xs ++ [32]).length = xs.length + 1 := by simp
                exact ⟨rfl, p4, cap4, by rw [e1]; rfl, by rw [e1] at hown4 ⊢; exact hown4, by simp at hle4; omega, hb3.trans ((Below.refl _ wr).grown hgrow4 hbr (fun k hk => (hown3.lt k hk).1))⟩
            case rest =>
              rintro _ w4 ⟨g, ⟨h12, p4, cap4, h11, hown4, hcp4, hb4⟩, rfl⟩
              rw [h11, h12]
              clear h11 h12 hown3 hb3 hbr
              have hb4s := hb4.size
              obtain ⟨ys, hys⟩ : ∃ x, x = xs ++ hexS1 sp k2 := ⟨_, rfl⟩
              have hyl : ys.length ≤ xs.length + 1 := by rw [hys]; unfold hexS1; split <;> simp
              rw [← hys] at hown4 ⊢
              have HY := Lib.hid hys
              clear hys
              obtain ⟨c3, hc3⟩ : ∃ c3 : Bool, c3 = decide (sp = true ∧ sh = true) := ⟨_, rfl⟩
              have HC3 := Lib.hid hc3
              clear hc3
              go_upto_region 9 with (fail)
              refine wp_cut (fun a' w' => ∃ g : Nat → Value, ((g 11 = .slice p4 ys.length cap4 ∧ g 12 = .int .i64 k2 ∧ g 44 = .bool c3) ∧ w4 = w') ∧ a' = ⟨#[.slice (some x) src.length c, .int .i64 K, .string D, .bool sh, .bool sp, g 5, g 6, g 7, g 8, g 9, g 10, g 11, g 12, g 13, g 14, g 15, g 16, g 17, g 18, g 19, g 20, g 21, g 22, g 23, g 24, g 25, g 26, g 27, g 28, g 29, g 30, g 31, g 32, g 33, g 34, g 35, g 36, g 37, g 38, g 39, g 40, g 41, g 42, g 43, g 44, g 45, g 46, g 47, g 48, g 49, g 50, g 51, g 52, g 53, g 54, g 55, g 56, g 57, g 58, g 59, g 60, g 61, g 62, g 63, g 64, g 65], []⟩) ?rest ?first
              case first =>
                intro _ _ _ _
                cases sp
                all_goals
                  go_wp2
                  refine Met.intro ?_
                  go_step
                  refine meetG (by kernel_rfl) ?_
                  refine ⟨⟨rfl, rfl, ?_⟩, rfl⟩
                  rw [HC3.out]
                  refine congrArg Value.bool ?_
                  simp
              case rest =>
                rintro _ wc ⟨g, ⟨⟨h11, h12, h44⟩, rfl⟩, rfl⟩
                rw [h11, h12, h44]
                clear h11 h12 h44
                go_upto_if 44 with (fail)
                refine wp_cut (fun a' w' => ∃ g : Nat → Value, ((g 12 = .int .i64 k2) ∧ ∃ (p5 : Option Addr) (cap5 : Nat), g 11 = .slice p5 (ys ++ hexS2 D sh sp).length cap5 ∧ w'.ownsRow w.heap.size 5 1 (.slice p5 (ys ++ hexS2 D sh sp).length cap5) (ys ++ hexS2 D sh sp).length (bcells (ys ++ hexS2 D sh sp)) ∧ 0 < cap5 ∧ Below w.heap.size w w') ∧ a' = ⟨#[.slice (some x) src.length c, .int .i64 K, .string D, .bool sh, .bool sp, g 5, g 6, g 7, g 8, g 9, g 10, g 11, g 12, g 13, g 14, g 15, g 16, g 17, g 18, g 19, g 20, g 21, g 22, g 23, g 24, g 25, g 26, g 27, g 28, g 29, g 30, g 31, g 32, g 33, g 34, g 35, g 36, g 37, g 38, g 39, g 40, g 41, g 42, g 43, g 44, g 45, g 46, g 47, g 48, g 49, g 50, g 51, g 52, g 53, g 54, g 55, g 56, g 57, g 58, g 59, g 60, g 61, g 62, g 63, g 64, g 65], []⟩) ?rest ?first
                case first =>
                  intro _ _ _ _
                  cases c3
                  · have hH : ys ++ hexS2 D sh sp = ys := by unfold hexS2; rw [if_neg (by simpa using HC3.out.symm)]; simp
                    have HH := Lib.hid hH
                    clear hH
                    go_wp2
                    refine Met.intro ?_
                    go_step
                    refine meetG (by kernel_rfl) ?_
                    rw [HH.out]
                    exact ⟨rfl, p4, cap4, rfl, hown4, hcp4, hb4⟩
                  · have hH : ys ++ hexS2 D sh sp = ys ++ [48, dig D 16] := by unfold hexS2; rw [if_pos (by simpa using HC3.out.symm)]
                    have HH := Lib.hid hH
                    clear hH
                    go_wp2_with ((at_builtin; refine append_new (w0 := w4) rfl _ _ 22 rfl w.heap.size 5 Tryd.underlying22 hI.out p4 ys cap4 rfl hown4 _ [48, dig D 16] (cells_pre D hd16) _ rfl (by simp; omega) hb4s ?_; intro p5 cap5 w5 hown5 hle5 hcap5 hgrow5))
                    refine Met.intro ?_
                    go_step
                    refine meetG (by kernel_rfl) ?_
                    rw [HH.out]
                    have e1 : (ys ++ [48, dig D 16]).length = ys.length + 2 := by simp
                    exact ⟨rfl, p5, cap5, by rw [e1]; rfl, by rw [e1] at hown5 ⊢; exact hown5, by simp at hle5; omega, hb4.trans ((Below.refl _ w4).grown hgrow5 hb4s (fun k hk => (hown4.lt k hk).1))⟩
                case rest =>
                  rintro _ w5 ⟨g, ⟨h12, p5, cap5, h11, hown5, hcp5, hb5⟩, rfl⟩
                  rw [h11, h12]
                  clear h11 h12 hown4 hb4 hb4s
                  have hb5s := hb5.size
                  obtain ⟨zs, hzs⟩ : ∃ x, x = ys ++ hexS2 D sh sp := ⟨_, rfl⟩
                  have hzl : zs.length ≤ ys.length + 2 := by rw [hzs]; unfold hexS2; split <;> simp
                  rw [← hzs] at hown5 ⊢
                  have HZ := Lib.hid hzs
                  clear hzs
                  have hql : k2 < src.length := by omega
                  obtain ⟨cb, hcb⟩ : ∃ cb : UInt8, cb = src[k2]'hql := ⟨_, rfl⟩
                  have HCB := Lib.hid (show cb = src.getD k2 0 by rw [hcb, List.getD_eq_getElem?_getD, List.getElem?_eq_getElem hql]; rfl)
                  have hc0 := HX.out k2 hql
                  have hcx := (hb5.cell (World.block_lt_of_cell? w _ hc0)).trans hc0
                  rw [← hcb] at hcx
                  clear hcb hc0
                  have hcb256 : cb.toNat < 256 := UInt8.toNat_lt cb
                  go_upto_region 12 with (fail)
                  obtain ⟨i0, hi0, hz0, hz1, hz2⟩ := info_parts hI.out
                  have hmax : zs.length + 2 ≤ maxLen := by unfold maxLen; omega
                  have hx1 : (0 : Int) ≤ (cb.toNat : Int) / 16 := by omega
                  have hx2 : (cb.toNat : Int) / 16 < (D.size : Int) := by omega
                  have hx3 : (0 : Int) ≤ (cb.toNat : Int) % 16 := by omega
                  have hx4 : (cb.toNat : Int) % 16 < (D.size : Int) := by omega
                  have hy1 : ((cb.toNat : Int) / 16).toNat < D.size := by omega
                  have hy2 : ((cb.toNat : Int) % 16).toNat < D.size := by omega
                  have hx5 : (cb.toNat : Int).tdiv 16 = (cb.toNat : Int) / 16 := Int.tdiv_eq_ediv_of_nonneg (by omega)
                  have hx6 : (cb.toNat : Int).tmod 16 = (cb.toNat : Int) % 16 := Int.tmod_eq_emod_of_nonneg (by omega)
                  have hx7 : IntKind.u8.wrap ((cb.toNat : Int) / 16) = (cb.toNat : Int) / 16 := IntWalk.u8_in _ (by omega)
                  have hx8 : IntKind.u8.wrap ((cb.toNat : Int) % 16) = (cb.toNat : Int) % 16 := IntWalk.u8_in _ (by omega)
                  clear hcx
                  go_region_held3 (fun _ => True) (first | trivial)
                    ((refine step_append_lies _ (by rfl) _ _ _ (by rfl) w.heap.size 5 i0 _ 1 1 Tryd.underlying22 hi0 hz0 hz1 hz2 rfl (by omega) (.slice p5 zs.length cap5) zs.length (bcells zs) (by rfl) ((hown5.alloc _).drew)
                        ⟨w5.heap.size, 0, none⟩ 2 2 (bcells (hexTok D cb)) (by rfl) (by rfl) (news_tok hy1 hy2) (by simp [Value.oneCell', bcells])
                        (by omega) hmax (by omega) (by simp; omega) (w5.heap.size + 1) (by simp) ?_; intro gg cap6 w6 hown6 hgrow6 hat6 hlt6))
                  all_goals
                    have hg6 : w5.grownBy w6 (Value.slice p5 zs.length cap5).ownBlock := grown_alloc_drew hgrow6
                    have hcp6 : 0 < cap6 := by
                      have h9 := ownsRow_form hown6
                      obtain ⟨p', cap', e1, e2, e3⟩ := h9
                      simp only [Value.slice.injEq] at e1
                      omega
                    clear hgrow6 hat6 hlt6
                    go_wp2
                    refine ⟨meetG (by kernel_rfl) ?_, ?_⟩
                    · have e1 : (zs ++ hexTok D cb).length = zs.length + 2 := by rw [List.length_append]; rfl
                      refine ⟨some ⟨gg, 0, none⟩, zs ++ hexTok D cb, k2 + 1, cap6, by rw [e1]; rfl, by go_num, hlt, Lib.hid ?_, by rw [e1, bcells_append]; exact hown6, hcp6, hb5.trans ((Below.refl _ w5).grown hg6 hb5s (fun k hk => (hown5.lt k hk).1))⟩
                      rw [HZ.out, HY.out, HXs.out, HCB.out, hexM]
                    · simp [intOf]
                      omega
        · obtain rfl : k2 = K := by omega
          go_wp2
          go_ret
          obtain ⟨gg, rfl, _, _⟩ := own_some hown3 hcp3
          rw [← HXs.out]
          exact ⟨gg, cap3, rfl, hown3, hb3⟩
end Go.Proofs.YtcfllmebcfimeaaDoor.Fm
