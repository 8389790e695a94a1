/- The law FnFmtSbxHexModel: its walk. -/
import Derived.Test.YtcfllmebcfimeaaDoorSbxLaw
import Derived.Test.YtcfllmebcfimeaaDoorAround
import Derived.Test.YtcfllmebcfimeaaDoorHexM2
namespace Go.Proofs.YtcfllmebcfimeaaDoor.Fm
open Go.ChangeShapes Go.WideShapes Go.ChangeAt Go.RowKit Go.Fmt

set_option maxHeartbeats 1000000 in
theorem guardHM (s d : ByteArray) (p : Option Addr) (l c : Nat) (v3 v4 v5 v6 v7 v8 v9 v10 : Value) (w : World) (h1 : s.size ≤ 140737488351232) (h2 : d.size ≤ 140737488351232) (h3 : l ≤ 140737488351232) :
    Calls Tryd.prog 41 #[.string s, .slice p l c, .string d, v3, v4, v5, v6, v7, v8, v9, v10] w fun e w' => e = .returned (.bool (decide (s.size + l + d.size ≤ 1048576))) ∧ w = w' := by
  by_cases a1 : s.size ≤ 1048576
  · by_cases a2 : l ≤ 1048576
    · by_cases a3 : s.size + l ≤ 1048576
      · by_cases a4 : d.size ≤ 1048576
        · by_cases a5 : s.size + l + d.size ≤ 1048576
          all_goals
            go_enter Tryd.func41, Tryd.ntmps41
            go_wp2
            go_ret
            exact ⟨by simp [a5], rfl⟩
        · have a5 : ¬ s.size + l + d.size ≤ 1048576 := by omega
          go_enter Tryd.func41, Tryd.ntmps41
          go_wp2
          go_ret
          exact ⟨by simp [a5], rfl⟩
      · have a5 : ¬ s.size + l + d.size ≤ 1048576 := by omega
        go_enter Tryd.func41, Tryd.ntmps41
        go_wp2
        go_ret
        exact ⟨by simp [a5], rfl⟩
    · have a5 : ¬ s.size + l + d.size ≤ 1048576 := by omega
      go_enter Tryd.func41, Tryd.ntmps41
      go_wp2
      go_ret
      exact ⟨by simp [a5], rfl⟩
  · have a5 : ¬ s.size + l + d.size ≤ 1048576 := by omega
    go_enter Tryd.func41, Tryd.ntmps41
    go_wp2
    go_ret
    exact ⟨by simp [a5], rfl⟩

theorem zzAroundI (q : Option Addr) (cs : List UInt8) (c : Nat) (n : Int) (b : UInt8) (left : Bool) (w : World) (hr : RowAt w q cs.length cs) (hc : q = none → c = 0) (h0 : 0 ≤ n) (hn : n ≤ 65536) (hl : cs.length ≤ 1073741824) :
    Calls Tryd.prog 43 #[.slice q cs.length c, .int .i64 n, .int .u8 b.toNat, .bool left] w (OwnRow w (around cs n.toNat b left)) := by
  obtain ⟨m, rfl⟩ := Int.eq_ofNat_of_zero_le h0
  exact zzAround q cs c m b left w hr hc (by omega) hl

/-- What the copy of a slice is good for here. -/
theorem copy_use2 {w w1 : World} {p : Option Addr} {bs : List UInt8} {e : Ending} (h : CopyOf w p bs e w1) :
    ∃ q c, e = .returned (.slice q bs.length c) ∧ ((q = none ∧ bs = [] ∧ c = 0) ∨ ∃ g, q = some ⟨g, 0, none⟩ ∧ At w1 g 0 bs ∧ g < w1.heap.size) ∧ Below w.heap.size w w1 := by
  rcases h with ⟨rfl, rfl, rfl, rfl⟩ | ⟨g, rfl, hown, hb⟩
  · exact ⟨none, 0, rfl, .inl ⟨rfl, rfl, rfl⟩, Below.refl _ _⟩
  · obtain ⟨hat, hlt, _⟩ := own_at hown
    exact ⟨some ⟨g, 0, none⟩, bs.length, rfl, .inr ⟨g, rfl, hat, hlt⟩, hb⟩

theorem ownRow_use {w w' : World} {bs : List UInt8} {e : Ending} (h : OwnRow w bs e w') : ∃ p cap, e = .returned (.slice p bs.length cap) ∧ RowAt w' p bs.length bs ∧ Below w.heap.size w w' := by
  obtain ⟨p, cap, h1, h2, h3⟩ := h
  exact ⟨p, cap, h1, RowAt.of_own h2, h3⟩

theorem around_nil (f : Flags) (n : Nat) (h : n = if f.widP = true ∧ 0 < f.wid then f.wid.toNat else 0) : around [] n (padByte f.zero) true = padB f [] := by
  have e : n = if f.widP = false then 0 else f.wid.toNat := by
    rw [h]
    cases f.widP
    · simp
    · by_cases h2 : 0 < f.wid
      · simp [h2]
      · simp [h2]; omega
  unfold around padB
  rw [e]
  cases f.widP <;> simp
theorem around_text (f : Flags) (T : List UInt8) (n : Nat) (h : n = if f.widP = true ∧ (T.length : Int) < f.wid then (f.wid - T.length).toNat else 0) : around T n (padByte f.zero) (!f.minus) = padB f T := by
  have e : n = if f.widP = false then 0 else (f.wid - T.length).toNat := by
    rw [h]
    cases f.widP
    · simp
    · by_cases h2 : (T.length : Int) < f.wid
      · simp [h2]
      · simp [h2]; omega
  unfold around padB
  rw [e]
  cases f.widP <;> cases f.minus <;> simp

set_option maxRecDepth 100000 in
set_option maxHeartbeats 4000000 in
theorem hmMain (s d : ByteArray) (p : Option Addr) (cap : Nat) (bs : List UInt8) (wid prec : Int) (wp pp mi sh sp ze : Bool) (w : World) (hg1 : w.cell? ⟨0, 0, none⟩ = some (.int .i64 2147483647)) (hr : RowAt w p bs.length bs) (hc : p = none → cap = 0)
    (hs : s.size ≤ 65536) (hbl : bs.length ≤ 65536) (hd : d.size ≤ 65536) (hd2 : 17 ≤ d.size)
    (hw1 : -65536 ≤ wid) (hw2 : wid ≤ 65536) (hp : pp = false ∨ (pp = true ∧ -65536 ≤ prec)) :
    Calls Tryd.prog 13 #[.string s, .slice p bs.length cap, .string d, .int .i64 wid, .bool wp, .int .i64 prec, .bool pp, .bool mi, .bool sh, .bool sp, .bool ze] w fun e w' => e = .returned (.bool true) ∧ Below w.heap.size w w' := by
  have hM : 0 < w.heap.size := World.block_lt_of_cell? w ⟨0, 0, none⟩ hg1
  have hlen : s.data.toList.length = s.size := by rw [Array.length_toList]; rfl
  have hpp : -1048576 ≤ prec ∨ pp = false := by rcases hp with h | ⟨_, h⟩; exact .inr h; exact .inl (by omega)
  obtain ⟨f, hf⟩ : ∃ f : Flags, f = ⟨wp, pp, mi, false, sh, sp, ze, wid, prec⟩ := ⟨_, rfl⟩
  have HF := Lib.hid hf
  have HN := Lib.hid (fun (w : World) (hM : 0 < w.heap.size) => newF2 f wp wid pp prec mi false sh sp ze hf w hM)
  have hfw : f.wid = wid := by rw [hf]
  have hfp : f.prec = prec := by rw [hf]
  have hfq : f.precP = pp := by rw [hf]
  have HS := Lib.hid (fun (N base F B : Nat) (src : List UInt8) (t : ByteArray) (p : Option Addr) (l c : Nat) (w : World) (h : Live w N base F B f []) (hg : w.cell? ⟨0, 0, none⟩ = some (.int .i64 2147483647)) (hk : SrcK w base B src t p l) (hn : src.length ≤ 1048576) =>
    zzSbx N base F B f [] src t d p l c w h hg hk (by simp) (by rw [hfw]; omega) (by rw [hfw]; omega) hn (by rw [hfp, hfq]; exact hpp) hd2)
  have HOL := Lib.hid (fun (src : List UInt8) (h : src.length ≤ 65536) => show ([] ++ hexOut f d src).length ≤ 1000000000 by have := hexOut_length f d src; rw [hfw] at this; simp only [List.nil_append]; omega)
  have HL := Lib.hid hlen
  have HG := Lib.hid hg1
  have HCL := Lib.hid (zzClone2 p bs.length cap bs w hr (by omega) hc)
  have HGD := Lib.hid (decide_eq_true (show s.size + bs.length + d.size ≤ 1048576 by omega))
  clear hlen hg1 hf hfw hfp hfq hpp hr hc
  have HP := Lib.hid hp
  go_enter Tryd.func13, Tryd.ntmps13
  go_wp2_with (fail)
  refine (guardHM s d _ _ _ _ _ _ _ _ _ _ _ w (by omega) (by omega) (by omega)).mono ?_
  rintro e w' ⟨rfl, rfl⟩
  rw [HGD.out]
  go_upto_region 9 with (fail)
  refine wp_cut (fun a' w' => ∃ g : Nat → Value, (g 70 = .bool false ∧ w = w') ∧ a' = ⟨#[.string s, .slice p bs.length cap, .string d, .int .i64 wid, .bool wp, .int .i64 prec, .bool pp, .bool mi, .bool sh, .bool sp, .bool ze, g 11, g 12, g 13, g 14, g 15, g 16, g 17, g 18, g 19, g 20, g 21, g 22, g 23, g 24, g 25, g 26, g 27, g 28, g 29, g 30, g 31, g 32, g 33, g 34, g 35, g 36, g 37, g 38, g 39, g 40, g 41, g 42, g 43, g 44, g 45, g 46, g 47, g 48, g 49, g 50, g 51, g 52, g 53, g 54, g 55, g 56, g 57, g 58, g 59, g 60, g 61, g 62, g 63, g 64, g 65, g 66, g 67, g 68, g 69, g 70, g 71, g 72, g 73, g 74, g 75, g 76, g 77, g 78, g 79, g 80, g 81, g 82, g 83, g 84, g 85, g 86, g 87, g 88, g 89, g 90, g 91, g 92, g 93, g 94, g 95, g 96, g 97, g 98, g 99, g 100, g 101, g 102, g 103, g 104, g 105, g 106, g 107, g 108, g 109, g 110, g 111, g 112, g 113, g 114, g 115, g 116, g 117, g 118, g 119, g 120, g 121, g 122, g 123, g 124, g 125, g 126, g 127, g 128, g 129, g 130, g 131, g 132, g 133, g 134, g 135, g 136, g 137, g 138, g 139, g 140], []⟩) ?rest ?first
  case first =>
    intro _ _ _ _
    rcases hp with rfl | ⟨rfl, hp⟩
    · go_wp2
      refine Met.intro ?_
      go_step
      refine meetG (by kernel_rfl) ?_
      exact ⟨rfl, rfl⟩
    · have hdd : decide (prec < -65536) = false := by simp; omega
      go_wp2
      refine Met.intro ?_
      go_step
      refine meetG (by kernel_rfl) ?_
      exact ⟨rfl, rfl⟩
  case rest =>
    rintro _ wc ⟨g, ⟨h70, rfl⟩, rfl⟩
    rw [h70]
    clear h70 hp
    go_wp2_with (fail)
    refine HCL.out.mono ?_
    intro e w1 hcp
    obtain ⟨q, c, rfl, hq, hb1⟩ := copy_use2 hcp
    clear hcp HCL
    obtain ⟨src, hsrc⟩ : ∃ src, src = if q.isNone then s.data.toList else bs := ⟨_, rfl⟩
    have hsl : src.length ≤ 65536 := by rw [hsrc]; split; rw [HL.out]; exact hs; exact hbl
    have HSrc := Lib.hid hsrc
    have HQ := Lib.hid hq
    have hE := eqlNil q bs.length c w1
    obtain ⟨w4, cap4, hcv, hat4, hb4, hz4⟩ := bytesOf w1 s
    have HAT := Lib.hid hat4
    clear hat4 hz4 hsrc hq
    go_upto_if 75 with (fail)
    refine wp_cut (fun a' w' => ∃ g : Nat → Value, (∃ (p2 : Option Addr) (c2 : Nat), g 23 = .slice p2 src.length c2 ∧ g 1 = .slice q bs.length c ∧ RowAt w' p2 src.length src ∧ Below w1.heap.size w1 w') ∧ a' = ⟨#[.string s, g 1, .string d, .int .i64 wid, .bool wp, .int .i64 prec, .bool pp, .bool mi, .bool sh, .bool sp, .bool ze, g 11, g 12, g 13, g 14, g 15, g 16, g 17, g 18, g 19, g 20, g 21, g 22, g 23, g 24, g 25, g 26, g 27, g 28, g 29, g 30, g 31, g 32, g 33, g 34, g 35, g 36, g 37, g 38, g 39, g 40, g 41, g 42, g 43, g 44, g 45, g 46, g 47, g 48, g 49, g 50, g 51, g 52, g 53, g 54, g 55, g 56, g 57, g 58, g 59, g 60, g 61, g 62, g 63, g 64, g 65, g 66, g 67, g 68, g 69, g 70, g 71, g 72, g 73, g 74, g 75, g 76, g 77, g 78, g 79, g 80, g 81, g 82, g 83, g 84, g 85, g 86, g 87, g 88, g 89, g 90, g 91, g 92, g 93, g 94, g 95, g 96, g 97, g 98, g 99, g 100, g 101, g 102, g 103, g 104, g 105, g 106, g 107, g 108, g 109, g 110, g 111, g 112, g 113, g 114, g 115, g 116, g 117, g 118, g 119, g 120, g 121, g 122, g 123, g 124, g 125, g 126, g 127, g 128, g 129, g 130, g 131, g 132, g 133, g 134, g 135, g 136, g 137, g 138, g 139, g 140], []⟩) ?rest ?first
    case first =>
      intro _ _ _ _
      rcases HQ.out with ⟨rfl, h2, rfl⟩ | ⟨gg, rfl, hat, hlt⟩
      · have hh : src = s.data.toList := by rw [HSrc.out]; rfl
        have hls : src.length = s.size := by rw [hh, HL.out]
        have HHH := Lib.hid hh
        have HLS := Lib.hid hls
        have H2 := Lib.hid h2
        clear hh hls h2
        go_wp2
        refine Met.intro ?_
        go_step
        refine meetG (by kernel_rfl) ?_
        have hrow := At.row HAT.out
        rw [HL.out, ← HHH.out] at hrow
        exact ⟨some ⟨w1.heap.size, 0, none⟩, cap4, by rw [HLS.out]; rfl, rfl, by rw [HLS.out]; exact hrow, hb4⟩
      · have hh : src = bs := by rw [HSrc.out]; rfl
        have HHH := Lib.hid hh
        have HROW := Lib.hid (At.row hat)
        clear hh hat
        go_wp2
        refine Met.intro ?_
        go_step
        refine meetG (by kernel_rfl) ?_
        rw [HHH.out]
        exact ⟨some ⟨gg, 0, none⟩, c, rfl, rfl, HROW.out, Below.refl _ _⟩
    case rest =>
      rintro _ w2 ⟨g, ⟨p2, c2, h23, h1, hrow, hb2⟩, rfl⟩
      rw [h23, h1]
      clear h23 h1 hcv hE hb4
      have HROW := Lib.hid hrow
      clear hrow
      obtain ⟨c5, hc5⟩ : ∃ c5 : Bool, c5 = decide (pp = true ∧ prec < src.length) := ⟨_, rfl⟩
      have HC5 := Lib.hid hc5
      clear hc5
      go_upto_region 16 with (fail)
      refine wp_cut (fun a' w' => ∃ g : Nat → Value, ((g 23 = .slice p2 src.length c2 ∧ g 1 = .slice q bs.length c ∧ g 24 = .int .i64 src.length ∧ g 85 = .bool c5) ∧ w2 = w') ∧ a' = ⟨#[.string s, g 1, .string d, .int .i64 wid, .bool wp, .int .i64 prec, .bool pp, .bool mi, .bool sh, .bool sp, .bool ze, g 11, g 12, g 13, g 14, g 15, g 16, g 17, g 18, g 19, g 20, g 21, g 22, g 23, g 24, g 25, g 26, g 27, g 28, g 29, g 30, g 31, g 32, g 33, g 34, g 35, g 36, g 37, g 38, g 39, g 40, g 41, g 42, g 43, g 44, g 45, g 46, g 47, g 48, g 49, g 50, g 51, g 52, g 53, g 54, g 55, g 56, g 57, g 58, g 59, g 60, g 61, g 62, g 63, g 64, g 65, g 66, g 67, g 68, g 69, g 70, g 71, g 72, g 73, g 74, g 75, g 76, g 77, g 78, g 79, g 80, g 81, g 82, g 83, g 84, g 85, g 86, g 87, g 88, g 89, g 90, g 91, g 92, g 93, g 94, g 95, g 96, g 97, g 98, g 99, g 100, g 101, g 102, g 103, g 104, g 105, g 106, g 107, g 108, g 109, g 110, g 111, g 112, g 113, g 114, g 115, g 116, g 117, g 118, g 119, g 120, g 121, g 122, g 123, g 124, g 125, g 126, g 127, g 128, g 129, g 130, g 131, g 132, g 133, g 134, g 135, g 136, g 137, g 138, g 139, g 140], []⟩) ?rest ?first
      case first =>
        intro _ _ _ _
        cases pp
        all_goals
          go_wp2
          refine Met.intro ?_
          go_step
          refine meetG (by kernel_rfl) ?_
          refine ⟨⟨rfl, rfl, rfl, ?_⟩, rfl⟩
          rw [HC5.out]
          refine congrArg Value.bool ?_
          simp
      case rest =>
        rintro _ wc ⟨g, ⟨⟨h23, h1, h24, h85⟩, rfl⟩, rfl⟩
        rw [h23, h1, h24, h85]
        clear h23 h1 h24 h85
        obtain ⟨k, hk⟩ : ∃ k : Int, k = hexK pp prec src.length := ⟨_, rfl⟩
        have HK := Lib.hid hk
        have hkl : k ≤ src.length := by rw [hk]; exact hexK_le _ _ _
        have hkl2 : -65536 ≤ k := by
          rw [hk]; unfold hexK
          split
          · rename_i h; rcases HP.out with h1 | ⟨_, h1⟩
            · rw [h1] at h; simp at h
            · exact h1
          · omega
        clear hk
        go_upto_if 85 with (fail)
        refine wp_cut (fun a' w' => ∃ g : Nat → Value, ((g 23 = .slice p2 src.length c2 ∧ g 1 = .slice q bs.length c ∧ g 24 = .int .i64 k) ∧ w2 = w') ∧ a' = ⟨#[.string s, g 1, .string d, .int .i64 wid, .bool wp, .int .i64 prec, .bool pp, .bool mi, .bool sh, .bool sp, .bool ze, g 11, g 12, g 13, g 14, g 15, g 16, g 17, g 18, g 19, g 20, g 21, g 22, g 23, g 24, g 25, g 26, g 27, g 28, g 29, g 30, g 31, g 32, g 33, g 34, g 35, g 36, g 37, g 38, g 39, g 40, g 41, g 42, g 43, g 44, g 45, g 46, g 47, g 48, g 49, g 50, g 51, g 52, g 53, g 54, g 55, g 56, g 57, g 58, g 59, g 60, g 61, g 62, g 63, g 64, g 65, g 66, g 67, g 68, g 69, g 70, g 71, g 72, g 73, g 74, g 75, g 76, g 77, g 78, g 79, g 80, g 81, g 82, g 83, g 84, g 85, g 86, g 87, g 88, g 89, g 90, g 91, g 92, g 93, g 94, g 95, g 96, g 97, g 98, g 99, g 100, g 101, g 102, g 103, g 104, g 105, g 106, g 107, g 108, g 109, g 110, g 111, g 112, g 113, g 114, g 115, g 116, g 117, g 118, g 119, g 120, g 121, g 122, g 123, g 124, g 125, g 126, g 127, g 128, g 129, g 130, g 131, g 132, g 133, g 134, g 135, g 136, g 137, g 138, g 139, g 140], []⟩) ?rest ?first
        case first =>
          intro _ _ _ _
          cases c5
          · have hh : k = src.length := by rw [HK.out]; unfold hexK; rw [if_neg (by simpa using HC5.out.symm)]
            have HH := Lib.hid hh
            clear hh
            go_wp2
            refine Met.intro ?_
            go_step
            refine meetG (by kernel_rfl) ?_
            rw [HH.out]
            exact ⟨⟨rfl, rfl, rfl⟩, rfl⟩
          · have hh : k = prec := by rw [HK.out]; unfold hexK; rw [if_pos (by simpa using HC5.out.symm)]
            have HH := Lib.hid hh
            clear hh
            go_wp2
            refine Met.intro ?_
            go_step
            refine meetG (by kernel_rfl) ?_
            rw [HH.out]
            exact ⟨⟨rfl, rfl, rfl⟩, rfl⟩
        case rest =>
          rintro _ wc ⟨g, ⟨⟨h23, h1, h24⟩, rfl⟩, rfl⟩
          rw [h23, h1, h24]
          clear h23 h1 h24
          have hOut : hexOut f d src = padB f (hexText d sh sp src k.toNat) := by unfold hexOut; rw [HK.out, HF.out]
          have HOut := Lib.hid hOut
          clear hOut
          go_upto_if 90 with ((go_at_call 42; refine (zzPadByte ze _).mono ?_; rintro e w' ⟨rfl, rfl⟩))
          refine wp_cut (fun a' w' => ∃ g : Nat → Value, (∃ (p6 : Option Addr) (c6 : Nat), g 26 = .slice p6 (hexOut f d src).length c6 ∧ g 1 = .slice q bs.length c ∧ RowAt w' p6 (hexOut f d src).length (hexOut f d src) ∧ Below w2.heap.size w2 w') ∧ a' = ⟨#[.string s, g 1, .string d, .int .i64 wid, .bool wp, .int .i64 prec, .bool pp, .bool mi, .bool sh, .bool sp, .bool ze, g 11, g 12, g 13, g 14, g 15, g 16, g 17, g 18, g 19, g 20, g 21, g 22, g 23, g 24, g 25, g 26, g 27, g 28, g 29, g 30, g 31, g 32, g 33, g 34, g 35, g 36, g 37, g 38, g 39, g 40, g 41, g 42, g 43, g 44, g 45, g 46, g 47, g 48, g 49, g 50, g 51, g 52, g 53, g 54, g 55, g 56, g 57, g 58, g 59, g 60, g 61, g 62, g 63, g 64, g 65, g 66, g 67, g 68, g 69, g 70, g 71, g 72, g 73, g 74, g 75, g 76, g 77, g 78, g 79, g 80, g 81, g 82, g 83, g 84, g 85, g 86, g 87, g 88, g 89, g 90, g 91, g 92, g 93, g 94, g 95, g 96, g 97, g 98, g 99, g 100, g 101, g 102, g 103, g 104, g 105, g 106, g 107, g 108, g 109, g 110, g 111, g 112, g 113, g 114, g 115, g 116, g 117, g 118, g 119, g 120, g 121, g 122, g 123, g 124, g 125, g 126, g 127, g 128, g 129, g 130, g 131, g 132, g 133, g 134, g 135, g 136, g 137, g 138, g 139, g 140], []⟩) ?rest ?first
          case first =>
            intro _ _ _ _
            by_cases hk0 : k ≤ 0
            · have hT : hexText d sh sp src k.toNat = [] := by unfold hexText; rw [if_pos (by omega)]
              have HT := Lib.hid hT
              clear hT
              by_cases hwp : wp = true ∧ 0 < wid
              · obtain ⟨rfl, hwid⟩ := hwp
                have hA : around [] wid.toNat (padByte ze) true = hexOut f d src := by
                  rw [HOut.out, HT.out]
                  have := around_nil f wid.toNat (by rw [HF.out]; simp [hwid])
                  rw [← this, HF.out]
                have HA := Lib.hid hA
                clear hA
                go_wp2_with (fail)
                refine (zzAroundI none [] 0 wid (padByte ze) true w2 (.inl ⟨rfl, rfl, rfl⟩) (fun _ => rfl) (by omega) (by omega) (by simp)).mono ?_
                intro e w6 ho
                obtain ⟨p6, c6, rfl, hr6, hb6⟩ := ownRow_use ho
                rw [HA.out] at hr6 ⊢
                have HR6 := Lib.hid hr6
                clear ho hr6
                go_wp2
                refine Met.intro ?_
                go_step
                refine meetG (by kernel_rfl) ?_
                exact ⟨p6, c6, rfl, rfl, HR6.out, hb6⟩
              · have hA : around [] 0 (padByte ze) true = hexOut f d src := by
                  rw [HOut.out, HT.out]
                  have := around_nil f 0 (by rw [HF.out, if_neg hwp])
                  rw [← this, HF.out]
                have HA := Lib.hid hA
                clear hA
                by_cases hwp' : wp = true
                · subst hwp'
                  have hd1 : decide (0 < wid) = false := by simpa using hwp
                  clear hwp
                  go_wp2_with (fail)
                  refine (zzAroundI none [] 0 0 (padByte ze) true w2 (.inl ⟨rfl, rfl, rfl⟩) (fun _ => rfl) (by omega) (by omega) (by simp)).mono ?_
                  intro e w6 ho
                  obtain ⟨p6, c6, rfl, hr6, hb6⟩ := ownRow_use ho
                  rw [show (0 : Int).toNat = 0 from rfl, HA.out] at hr6 ⊢
                  have HR6 := Lib.hid hr6
                  clear ho hr6
                  go_wp2
                  refine Met.intro ?_
                  go_step
                  refine meetG (by kernel_rfl) ?_
                  exact ⟨p6, c6, rfl, rfl, HR6.out, hb6⟩
                · obtain rfl : wp = false := by simpa using hwp'
                  clear hwp hwp'
                  go_wp2_with (fail)
                  refine (zzAroundI none [] 0 0 (padByte ze) true w2 (.inl ⟨rfl, rfl, rfl⟩) (fun _ => rfl) (by omega) (by omega) (by simp)).mono ?_
                  intro e w6 ho
                  obtain ⟨p6, c6, rfl, hr6, hb6⟩ := ownRow_use ho
                  rw [show (0 : Int).toNat = 0 from rfl, HA.out] at hr6 ⊢
                  have HR6 := Lib.hid hr6
                  clear ho hr6
                  go_wp2
                  refine Met.intro ?_
                  go_step
                  refine meetG (by kernel_rfl) ?_
                  exact ⟨p6, c6, rfl, rfl, HR6.out, hb6⟩
            · obtain ⟨K, rfl⟩ := Int.eq_ofNat_of_zero_le (show 0 ≤ k by omega)
              obtain ⟨T, hT⟩ : ∃ T, T = hexText d sh sp src K := ⟨_, rfl⟩
              have hTl : T.length ≤ 5 * K + 2 := by
                rw [hT]; unfold hexText; split
                · simp
                · exact hexN_length_le _ _ _ _ _
              have HT := Lib.hid hT
              clear hT
              have hOut2 : hexOut f d src = padB f T := by rw [HOut.out, Int.toNat_natCast, ← HT.out]
              have HOut2 := Lib.hid hOut2
              clear hOut2
              have HM := Lib.hid (zzHexModel2 p2 c2 src K d sh sp w2 HROW.out (by omega) (by omega) (by omega) hd2)
              go_wp2_with (fail)
              refine HM.out.mono ?_
              rintro e w5 ⟨gg, c5', rfl, hown, hb5⟩
              rw [← HT.out] at hown ⊢
              have HROW5 := Lib.hid (RowAt.of_own hown)
              clear hown
              by_cases hwp : wp = true ∧ (T.length : Int) < wid
              · obtain ⟨rfl, hwid⟩ := hwp
                have hA : around T (wid - T.length).toNat (padByte ze) (!mi) = hexOut f d src := by
                  rw [HOut2.out]
                  have := around_text f T (wid - T.length).toNat (by rw [HF.out]; simp [hwid])
                  rw [← this, HF.out]
                have HA := Lib.hid hA
                clear hA
                go_wp2_with (fail)
                refine (zzAroundI (some ⟨gg, 0, none⟩) T c5' (wid - T.length) (padByte ze) (!mi) w5 HROW5.out (fun h => by cases h) (by omega) (by omega) (by omega)).mono ?_
                intro e w6 ho
                obtain ⟨p6, c6, rfl, hr6, hb6⟩ := ownRow_use ho
                rw [HA.out] at hr6 ⊢
                have HR6 := Lib.hid hr6
                clear ho hr6
                go_wp2
                refine Met.intro ?_
                go_step
                refine meetG (by kernel_rfl) ?_
                exact ⟨p6, c6, rfl, rfl, HR6.out, hb5.trans (hb6.mono hb5.size)⟩
              · have hA : around T 0 (padByte ze) (!mi) = hexOut f d src := by
                  rw [HOut2.out]
                  have := around_text f T 0 (by rw [HF.out, if_neg hwp])
                  rw [← this, HF.out]
                have HA := Lib.hid hA
                clear hA
                by_cases hwp' : wp = true
                · subst hwp'
                  have hd1 : decide ((T.length : Int) < wid) = false := by simpa using hwp
                  clear hwp
                  go_wp2_with (fail)
                  refine (zzAroundI (some ⟨gg, 0, none⟩) T c5' 0 (padByte ze) (!mi) w5 HROW5.out (fun h => by cases h) (by omega) (by omega) (by omega)).mono ?_
                  intro e w6 ho
                  obtain ⟨p6, c6, rfl, hr6, hb6⟩ := ownRow_use ho
                  rw [show (0 : Int).toNat = 0 from rfl, HA.out] at hr6 ⊢
                  have HR6 := Lib.hid hr6
                  clear ho hr6
                  go_wp2
                  refine Met.intro ?_
                  go_step
                  refine meetG (by kernel_rfl) ?_
                  exact ⟨p6, c6, rfl, rfl, HR6.out, hb5.trans (hb6.mono hb5.size)⟩
                · obtain rfl : wp = false := by simpa using hwp'
                  clear hwp hwp'
                  go_wp2_with (fail)
                  refine (zzAroundI (some ⟨gg, 0, none⟩) T c5' 0 (padByte ze) (!mi) w5 HROW5.out (fun h => by cases h) (by omega) (by omega) (by omega)).mono ?_
                  intro e w6 ho
                  obtain ⟨p6, c6, rfl, hr6, hb6⟩ := ownRow_use ho
                  rw [show (0 : Int).toNat = 0 from rfl, HA.out] at hr6 ⊢
                  have HR6 := Lib.hid hr6
                  clear ho hr6
                  go_wp2
                  refine Met.intro ?_
                  go_step
                  refine meetG (by kernel_rfl) ?_
                  exact ⟨p6, c6, rfl, rfl, HR6.out, hb5.trans (hb6.mono hb5.size)⟩
          case rest =>
            rintro _ w6 ⟨g, ⟨p6, c6, h26, h1, hr6, hb6⟩, rfl⟩
            rw [h26, h1]
            clear h26 h1
            have HR6 := Lib.hid hr6
            clear hr6
            have hb16 : Below w1.heap.size w1 w6 := hb2.trans (hb6.mono hb2.size)
            have hb06 : Below w.heap.size w w6 := hb1.trans (hb16.mono hb1.size)
            have hM6 : 0 < w6.heap.size := Nat.lt_of_lt_of_le hM hb06.size
            have hm6 := Lib.hid (maxl_below hb06 hM HG.out)
            have hK6 : ∀ w7, Below w6.heap.size w6 w7 → SrcK w7 (w6.heap.size + 2) w6.heap.size src s q bs.length := by
              intro w7 hb7
              rcases HQ.out with ⟨rfl, h2, rfl⟩ | ⟨gg, rfl, hat, hlt⟩
              · exact .inl ⟨rfl, by rw [h2]; rfl, by rw [HSrc.out]; rfl⟩
              · have hlt6 : gg < w6.heap.size := Nat.lt_of_lt_of_le hlt hb16.size
                have hsb : src = bs := by rw [HSrc.out]; rfl
                exact .inr ⟨gg, 0, rfl, by rw [hsb], by rw [hsb]; exact ((hat.below hb16 hlt).below hb7 hlt6), by omega, by omega⟩
            have HK6 := Lib.hid hK6
            clear hK6
            go_wp2_with (fail)
            refine (HN.out w6 hM6).mono ?_
            rintro e w7 ⟨rfl, hL7, hb7, hz7, hc7⟩
            have HL7 := Lib.hid hL7
            have HK7 := Lib.hid (HK6.out w7 hb7)
            have hm7 := Lib.hid (maxl_below hb7 hM6 hm6.out)
            clear hL7 hz7 hc7 hm6
            go_wp2_with (fail)
            refine (HS.out _ _ _ _ src s q bs.length c w7 HL7.out hm7.out HK7.out (by omega)).mono ?_
            rintro e w8 ⟨rfl, hL8, hb8⟩
            have hb68 : Below w6.heap.size w6 w8 := hb7.trans hb8
            have HR8 := Lib.hid (HR6.out.old hb68)
            have hZ1 := Lib.hid (zzBuf _ _ _ _ _ _ w8 hL8)
            clear hL8
            go_wp2_with (fail)
            refine hZ1.out.mono ?_
            rintro e w9 ⟨rfl, p9, c9, rfl, hr9⟩
            have HR9 := Lib.hid hr9
            clear hr9
            go_wp2_with (fail)
            refine (zzEqual p9 p6 _ c9 _ c6 _ _ w8 HR9.out HR8.out (HOL.out src hsl)).mono ?_
            rintro e w10 ⟨rfl, hb10⟩
            go_wp2
            go_ret
            exact ⟨by simp, hb06.trans ((hb68.mono hb06.size).trans (hb10.mono (Nat.le_trans hb06.size hb68.size)))⟩

set_option maxRecDepth 100000 in
set_option maxHeartbeats 2000000 in
theorem hmLaw (s d : ByteArray) (p : Option Addr) (cap : Nat) (bs : List UInt8) (wid prec : Int) (wp pp mi sh sp ze : Bool) (w : World) (hg1 : w.cell? ⟨0, 0, none⟩ = some (.int .i64 2147483647)) (hr : RowAt w p bs.length bs) (hc : p = none → cap = 0)
    (hs : s.size ≤ 140737488351232) (hbl : bs.length ≤ 140737488351232) (hd : d.size ≤ 140737488351232) :
    Calls Tryd.prog 13 #[.string s, .slice p bs.length cap, .string d, .int .i64 wid, .bool wp, .int .i64 prec, .bool pp, .bool mi, .bool sh, .bool sp, .bool ze] w fun e w' => e = .returned (.bool true) ∧ Below w.heap.size w w' := by
  by_cases c1 : s.size + bs.length + d.size ≤ 1048576
  · have HGD := Lib.hid (decide_eq_true c1)
    by_cases c2 : s.size ≤ 65536
    · by_cases c3 : bs.length ≤ 65536
      · by_cases c4 : d.size ≤ 65536
        · by_cases c5 : 17 ≤ d.size
          · by_cases c6 : -65536 ≤ wid
            · by_cases c7 : wid ≤ 65536
              · by_cases c8 : pp = false ∨ (pp = true ∧ -65536 ≤ prec)
                · exact hmMain s d p cap bs wid prec wp pp mi sh sp ze w hg1 hr hc c2 c3 c4 c5 c6 c7 c8
                · obtain rfl : pp = true := by cases pp <;> simp_all
                  have c9 : prec < -65536 := by simp at c8; omega
                  clear c8
                  clear hg1 hr hc
                  go_enter Tryd.func13, Tryd.ntmps13
                  go_wp2_with (fail)
                  refine (guardHM s d _ _ _ _ _ _ _ _ _ _ _ w hs hd hbl).mono ?_
                  rintro e w' ⟨rfl, rfl⟩
                  rw [HGD.out]
                  go_wp2
                  go_ret
                  exact ⟨rfl, Below.refl _ _⟩
              · clear hg1 hr hc
                go_enter Tryd.func13, Tryd.ntmps13
                go_wp2_with (fail)
                refine (guardHM s d _ _ _ _ _ _ _ _ _ _ _ w hs hd hbl).mono ?_
                rintro e w' ⟨rfl, rfl⟩
                rw [HGD.out]
                go_wp2
                go_ret
                exact ⟨rfl, Below.refl _ _⟩
            · clear hg1 hr hc
              go_enter Tryd.func13, Tryd.ntmps13
              go_wp2_with (fail)
              refine (guardHM s d _ _ _ _ _ _ _ _ _ _ _ w hs hd hbl).mono ?_
              rintro e w' ⟨rfl, rfl⟩
              rw [HGD.out]
              go_wp2
              go_ret
              exact ⟨rfl, Below.refl _ _⟩
          · clear hg1 hr hc
            go_enter Tryd.func13, Tryd.ntmps13
            go_wp2_with (fail)
            refine (guardHM s d _ _ _ _ _ _ _ _ _ _ _ w hs hd hbl).mono ?_
            rintro e w' ⟨rfl, rfl⟩
            rw [HGD.out]
            go_wp2
            go_ret
            exact ⟨rfl, Below.refl _ _⟩
        · clear hg1 hr hc
          go_enter Tryd.func13, Tryd.ntmps13
          go_wp2_with (fail)
          refine (guardHM s d _ _ _ _ _ _ _ _ _ _ _ w hs hd hbl).mono ?_
          rintro e w' ⟨rfl, rfl⟩
          rw [HGD.out]
          go_wp2
          go_ret
          exact ⟨rfl, Below.refl _ _⟩
      · clear hg1 hr hc
        go_enter Tryd.func13, Tryd.ntmps13
        go_wp2_with (fail)
        refine (guardHM s d _ _ _ _ _ _ _ _ _ _ _ w hs hd hbl).mono ?_
        rintro e w' ⟨rfl, rfl⟩
        rw [HGD.out]
        go_wp2
        go_ret
        exact ⟨rfl, Below.refl _ _⟩
    · clear hg1 hr hc
      go_enter Tryd.func13, Tryd.ntmps13
      go_wp2_with (fail)
      refine (guardHM s d _ _ _ _ _ _ _ _ _ _ _ w hs hd hbl).mono ?_
      rintro e w' ⟨rfl, rfl⟩
      rw [HGD.out]
      go_wp2
      go_ret
      exact ⟨rfl, Below.refl _ _⟩
  · have HGD := Lib.hid (decide_eq_false c1)
    clear c1
    clear hg1 hr hc
    go_enter Tryd.func13, Tryd.ntmps13
    go_wp2_with (fail)
    refine (guardHM s d _ _ _ _ _ _ _ _ _ _ _ w hs hd hbl).mono ?_
    rintro e w' ⟨rfl, rfl⟩
    rw [HGD.out]
    go_wp2
    go_ret
    exact ⟨rfl, Below.refl _ _⟩
end Go.Proofs.YtcfllmebcfimeaaDoor.Fm
namespace Go.Proofs.YtcfllmebcfimeaaDoor
open Go.Proofs.YtcfllmebcfimeaaDoor.Fm
theorem Fm.maxl_hm {w : World} (h : laidMetH Tryd.prog Rows.fnFmtSbxHexModelRow.laid w) : w.cell? ⟨0, 0, none⟩ = some (.int .i64 2147483647) := by
  rw [MakeChecks.laidMetH_plain _ _ _ (by kernel_rfl)] at h
  exact LawFrame.laid_int h (List.mem_cons_of_mem _ (List.mem_cons_self ..)) (by kernel_rfl) (by kernel_rfl) Tryd.underlying3
theorem fnFmtSbxHexModel.walk (a0 : ByteArray) (a1 : Option Addr) (len1 cap1 : Nat) (z1 : List Int) (a2 : ByteArray) (a3 : Int) (a4 : Bool) (a5 : Int) (a6 : Bool) (a7 : Bool) (a8 : Bool) (a9 : Bool) (a10 : Bool) (w : World) (w0 : a0.size ≤ 140737488351232) (w1 : LawFrame.IsRow .u8 1 w a1 len1 cap1 z1) (w2 : a2.size ≤ 140737488351232) (_w3 : (Lit.int .i64 a3).wf = true) (_w5 : (Lit.int .i64 a5).wf = true) (hL : laidMetH Tryd.prog Rows.fnFmtSbxHexModelRow.laid w) :
    Calls Tryd.prog 13 #[.string a0, .slice a1 len1 cap1, .string a2, .int .i64 a3, .bool a4, .int .i64 a5, .bool a6, .bool a7, .bool a8, .bool a9, .bool a10] w fun e w' => e = .returned (.bool true) ∧ RowKit.Below w.heap.size w w' := by
  obtain ⟨bs, hr, hc, _, hsz⟩ := Go.Fmt.rowAt_of w1
  obtain rfl := hr.len
  exact hmLaw a0 a2 a1 cap1 bs a3 a5 a4 a6 a7 a8 a9 a10 w (maxl_hm hL) hr hc w0 hsz w2
end Go.Proofs.YtcfllmebcfimeaaDoor
