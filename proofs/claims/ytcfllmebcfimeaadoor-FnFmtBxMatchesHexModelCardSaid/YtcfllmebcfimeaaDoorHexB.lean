/- The laws on fmtBx: their walks. -/
import Derived.Test.YtcfllmebcfimeaaDoorHexLaw
import Derived.Test.YtcfllmebcfimeaaDoorClone
namespace Go.Proofs.YtcfllmebcfimeaaDoor.Fm
open Go.ChangeShapes Go.WideShapes Go.ChangeAt Go.RowKit Go.Fmt

/-- What the copy is good for. -/
theorem copy_use {w w1 : World} {p : Option Addr} {bs : List UInt8} {e : Ending} (h : CopyOf w p bs e w1) :
    ∃ q c, e = .returned (.slice q bs.length c) ∧ SrcAt w1 w1.heap.size bs ⟨#[]⟩ q bs.length ∧ (∀ w', Below w1.heap.size w1 w' → (convert 22 9 (.slice q bs.length c)).run Tryd.prog w' = .ok (.string ⟨bs.toArray⟩) w') ∧ Below w.heap.size w w1 := by
  rcases h with ⟨rfl, rfl, rfl, rfl⟩ | ⟨g, rfl, hown, hb⟩
  · exact ⟨none, 0, rfl, .inl ⟨rfl, rfl, rfl⟩, fun w' _ => Go.Lib.run_convert_nil_bytes w' 22 9 5 _ Tryd.underlying22 Tryd.underlying5 Tryd.underlying9, Below.refl _ _⟩
  · obtain ⟨hat, hlt, _⟩ := own_at hown
    exact ⟨some ⟨g, 0, none⟩, bs.length, rfl, .inr ⟨g, 0, rfl, rfl, hat, hlt⟩, fun w' hb' => (hat.below hb' hlt).conv Tryd.underlying22 Tryd.underlying5 Tryd.underlying9, hb⟩

set_option maxHeartbeats 1000000 in
theorem guardBM (p : Option Addr) (l c : Nat) (v1 v2 v3 v4 v5 v6 v7 v8 v9 v10 : Value) (b : Bool) (w : World) (hsz : l ≤ 140737488351232) (hb : decide (l ≤ 1048576) = b) :
    Calls Tryd.prog 23 #[.slice p l c, v1, v2, v3, v4, v5, v6, v7, v8, v9, v10] w fun e w' => e = .returned (.bool b) ∧ w = w' := by
  subst hb
  by_cases h : l ≤ 1048576
  all_goals
    go_enter Tryd.func23, Tryd.ntmps23
    go_wp2
    go_ret
    exact ⟨by simp [h], rfl⟩
set_option maxHeartbeats 1000000 in
theorem guardBA (p : Option Addr) (l c : Nat) (v1 v2 v3 v4 v5 v6 v7 v8 v9 v10 : Value) (b : Bool) (w : World) (hsz : l ≤ 140737488351232) (hb : decide (l ≤ 1048576) = b) :
    Calls Tryd.prog 14 #[.slice p l c, v1, v2, v3, v4, v5, v6, v7, v8, v9, v10] w fun e w' => e = .returned (.bool b) ∧ w = w' := by
  subst hb
  by_cases h : l ≤ 1048576
  all_goals
    go_enter Tryd.func14, Tryd.ntmps14
    go_wp2
    go_ret
    exact ⟨by simp [h], rfl⟩

set_option maxRecDepth 100000 in
set_option maxHeartbeats 2000000 in
theorem baMain (p : Option Addr) (cap : Nat) (bs : List UInt8) (up : Bool) (wid prec : Int) (wp pp mi pl sh sp ze : Bool) (w : World) (hg1 : w.cell? ⟨0, 0, none⟩ = some (.int .i64 2147483647)) (hr : RowAt w p bs.length bs) (hc : p = none → cap = 0) (hs : bs.length ≤ 1048576)
    (hw1 : 0 ≤ wid) (hw2 : wid ≤ 65536) (hp : 0 ≤ prec) :
    Calls Tryd.prog 3 #[.slice p bs.length cap, .bool up, .int .i64 wid, .int .i64 prec, .bool wp, .bool pp, .bool mi, .bool pl, .bool sh, .bool sp, .bool ze] w fun e w' => e = .returned (.bool true) ∧ Below w.heap.size w w' := by
  have hM : 0 < w.heap.size := World.block_lt_of_cell? w ⟨0, 0, none⟩ hg1
  have hC := Lib.hid (zzClone p bs.length cap bs w hr hs hc)
  clear hr hc
  go_enter Tryd.func3, Tryd.ntmps3
  go_wp2_with (fail)
  refine (guardBA p bs.length cap _ _ _ _ _ _ _ _ _ _ true w (by omega) (by simpa using hs)).mono ?_
  rintro e w' ⟨rfl, rfl⟩
  go_wp2_with (fail)
  refine hC.out.mono ?_
  intro e w1 hcp
  obtain ⟨q, c, rfl, hsrc, hconv, hb1⟩ := copy_use hcp
  clear hcp
  have hm1 := maxl_below hb1 hM hg1
  have hM1 : 0 < w1.heap.size := Nat.lt_of_lt_of_le hM hb1.size
  have hX := Lib.hid (zzFmtBx ⟨wp, pp, mi, pl, sh, sp, ze, wid, prec⟩ bs q bs.length c (digitsU up) wid prec wp pp mi pl sh sp ze rfl w1 hm1 hsrc hw1 hw2 hs hp (digitsU_size up))
  have HCV := Lib.hid hconv
  clear hg1 hsrc hconv
  go_wp2_with ((go_at_call 16; refine (zzDigits up _).mono ?_; rintro e w' ⟨rfl, rfl⟩))
  refine hX.out.mono ?_
  rintro e w2 ⟨rfl, hb2⟩
  have hcv := HCV.out w2 hb2
  have hY := Lib.hid (zzFmtSx ⟨wp, pp, mi, pl, sh, sp, ze, wid, prec⟩ ⟨bs.toArray⟩ (digitsU up) wid prec wp pp mi pl sh sp ze rfl w2 (maxl_below hb2 hM1 hm1) hw1 hw2 (by simpa using hs) hp (digitsU_size up))
  clear hm1
  go_wp2_with (fail)
  refine hY.out.mono ?_
  rintro e w3 ⟨rfl, hb3⟩
  clear hcv
  go_wp2
  go_ret
  exact ⟨by simp, hb1.trans ((hb2.trans (hb3.mono hb2.size)).mono hb1.size)⟩
set_option maxRecDepth 100000 in
set_option maxHeartbeats 2000000 in
theorem bmMain (p : Option Addr) (cap : Nat) (bs : List UInt8) (K : Nat) (up : Bool) (wid prec : Int) (wp pp mi pl sh sp ze : Bool) (w : World) (hg1 : w.cell? ⟨0, 0, none⟩ = some (.int .i64 2147483647)) (hr : RowAt w p bs.length bs) (hc : p = none → cap = 0) (hs : bs.length ≤ 1048576)
    (hw1 : 0 ≤ wid) (hw2 : wid ≤ 65536) (hp : 0 ≤ prec) (hk : (pp = true ∧ prec < bs.length ∧ prec = K) ∨ (pp = false ∧ K = bs.length) ∨ (pp = true ∧ ¬ prec < bs.length ∧ K = bs.length)) :
    Calls Tryd.prog 6 #[.slice p bs.length cap, .bool up, .int .i64 wid, .int .i64 prec, .bool wp, .bool pp, .bool mi, .bool pl, .bool sh, .bool sp, .bool ze] w fun e w' => e = .returned (.bool true) ∧ Below w.heap.size w w' := by
  have hM : 0 < w.heap.size := World.block_lt_of_cell? w ⟨0, 0, none⟩ hg1
  have hC := Lib.hid (zzClone p bs.length cap bs w hr hs hc)
  have hkK : hexK pp prec bs.length = K := by
    unfold hexK
    rcases hk with ⟨rfl, h1, rfl⟩ | ⟨rfl, rfl⟩ | ⟨rfl, h1, rfl⟩
    · rw [if_pos ⟨rfl, h1⟩]
    · rw [if_neg (by simp)]
    · rw [if_neg (by simpa using h1)]
  have hKs : K ≤ bs.length := by rcases hk with ⟨_, h1, h2⟩ | ⟨_, h2⟩ | ⟨_, _, h2⟩ <;> omega
  obtain ⟨T, hT⟩ : ∃ T, T = hexText (digitsU up) sh sp bs K := ⟨_, rfl⟩
  have hTl : T.length ≤ 5 * K + 2 := by rw [hT]; unfold hexText; split
                                        · simp
                                        · exact hexN_length_le _ _ _ _ _
  have hfo : hexOut ⟨wp, pp, mi, pl, sh, sp, ze, wid, prec⟩ (digitsU up) bs = zpad T T.length wid wp mi ze := by
    unfold hexOut
    rw [padB_zpad, hT]
    simp only [hkK, Int.toNat_natCast]
  have HO := Lib.hid hfo
  have HT := Lib.hid hT
  have hsz : (⟨bs.toArray⟩ : ByteArray).size = bs.length := by simp [ByteArray.size]
  have hXX := Lib.hid (fun w1 hm1 q c hsrc => zzFmtBx ⟨wp, pp, mi, pl, sh, sp, ze, wid, prec⟩ bs q bs.length c (digitsU up) wid prec wp pp mi pl sh sp ze rfl w1 hm1 hsrc hw1 hw2 hs hp (digitsU_size up))
  clear hr hc hkK hT hfo
  rcases hk with ⟨rfl, h1, rfl⟩ | ⟨rfl, rfl⟩ | ⟨rfl, h1, rfl⟩
  all_goals
    go_enter Tryd.func6, Tryd.ntmps6
    go_wp2_with (fail)
    refine (guardBM p bs.length cap _ _ _ _ _ _ _ _ _ _ true w (by omega) (by simpa using hs)).mono ?_
    rintro e w' ⟨rfl, rfl⟩
    go_wp2_with (fail)
    refine hC.out.mono ?_
    intro e w1 hcp
    obtain ⟨q, c, rfl, hsrc, hconv, hb1⟩ := copy_use hcp
    clear hcp
    have hm1 := maxl_below hb1 hM hg1
    have hX := Lib.hid (hXX.out w1 hm1 q c hsrc)
    have HCV := Lib.hid hconv
    clear hsrc hconv hm1
    go_wp2_with ((go_at_call 16; refine (zzDigits up _).mono ?_; rintro e w' ⟨rfl, rfl⟩))
    refine hX.out.mono ?_
    rintro e w2 ⟨rfl, hb2⟩
    have hcv := HCV.out w2 hb2
    go_wp2_with (fail)
    refine (zzHexModel ⟨bs.toArray⟩ _ up sh sp w2 (by rw [hsz]; exact hKs) (by rw [hsz]; exact hs)).mono ?_
    rintro e w3 ⟨gg, cap3, rfl, hown, hb3⟩
    have hTT := HT.out
    change T = hexText _ _ _ (ByteArray.mk bs.toArray).data.toList _ at hTT
    rw [← hTT] at hown ⊢
    obtain ⟨hat, hlt, _⟩ := own_at hown
    clear hown hTT hcv
    go_wp2_with (fail)
    refine (zzPad T gg 0 cap3 T.length wid wp mi ze w3 hat hlt (by omega) hw2 (by omega)).mono ?_
    rintro e w4 ⟨rfl, hb4⟩
    clear hat
    rw [HO.out]
    go_wp2
    go_ret
    exact ⟨rfl, hb1.trans (((hb2.trans (hb3.mono hb2.size)).trans (hb4.mono (Nat.le_trans hb2.size hb3.size))).mono hb1.size)⟩

set_option maxRecDepth 100000 in
set_option maxHeartbeats 2000000 in
theorem lbaLaw (p : Option Addr) (cap : Nat) (bs : List UInt8) (up : Bool) (wid prec : Int) (wp pp mi pl sh sp ze : Bool) (w : World) (hg1 : w.cell? ⟨0, 0, none⟩ = some (.int .i64 2147483647)) (hr : RowAt w p bs.length bs) (hc : p = none → cap = 0) (hsz : bs.length ≤ 140737488351232) :
    Calls Tryd.prog 3 #[.slice p bs.length cap, .bool up, .int .i64 wid, .int .i64 prec, .bool wp, .bool pp, .bool mi, .bool pl, .bool sh, .bool sp, .bool ze] w fun e w' => e = .returned (.bool true) ∧ Below w.heap.size w w' := by
  by_cases hs : bs.length ≤ 1048576
  · by_cases hw : 0 ≤ wid ∧ wid ≤ 65536
    · by_cases hp : 0 ≤ prec
      · exact baMain p cap bs up wid prec wp pp mi pl sh sp ze w hg1 hr hc hs hw.1 hw.2 hp
      · obtain ⟨hw1, hw2⟩ := hw
        have hp2 : prec < 0 := by omega
        clear hg1 hp hr hc
        go_enter Tryd.func3, Tryd.ntmps3
        go_wp2_with (fail)
        refine (guardBA p bs.length cap _ _ _ _ _ _ _ _ _ _ true w (by omega) (by simpa using hs)).mono ?_
        rintro e w' ⟨rfl, rfl⟩
        go_wp2
        go_ret
        exact ⟨rfl, Below.refl _ _⟩
    · clear hg1 hr hc
      by_cases hw1 : wid < 0
      · clear hw
        go_enter Tryd.func3, Tryd.ntmps3
        go_wp2_with (fail)
        refine (guardBA p bs.length cap _ _ _ _ _ _ _ _ _ _ true w (by omega) (by simpa using hs)).mono ?_
        rintro e w' ⟨rfl, rfl⟩
        go_wp2
        go_ret
        exact ⟨rfl, Below.refl _ _⟩
      · have hw2 : 65536 < wid := by omega
        have hw3 : 0 ≤ wid := by omega
        clear hw hw1
        go_enter Tryd.func3, Tryd.ntmps3
        go_wp2_with (fail)
        refine (guardBA p bs.length cap _ _ _ _ _ _ _ _ _ _ true w (by omega) (by simpa using hs)).mono ?_
        rintro e w' ⟨rfl, rfl⟩
        go_wp2
        go_ret
        exact ⟨rfl, Below.refl _ _⟩
  · clear hg1 hr hc
    go_enter Tryd.func3, Tryd.ntmps3
    go_wp2_with (fail)
    refine (guardBA p bs.length cap _ _ _ _ _ _ _ _ _ _ false w (by omega) (by simpa using hs)).mono ?_
    rintro e w' ⟨rfl, rfl⟩
    go_wp2
    go_ret
    exact ⟨rfl, Below.refl _ _⟩

set_option maxRecDepth 100000 in
set_option maxHeartbeats 2000000 in
theorem lbmLaw (p : Option Addr) (cap : Nat) (bs : List UInt8) (up : Bool) (wid prec : Int) (wp pp mi pl sh sp ze : Bool) (w : World) (hg1 : w.cell? ⟨0, 0, none⟩ = some (.int .i64 2147483647)) (hr : RowAt w p bs.length bs) (hc : p = none → cap = 0) (hsz : bs.length ≤ 140737488351232) :
    Calls Tryd.prog 6 #[.slice p bs.length cap, .bool up, .int .i64 wid, .int .i64 prec, .bool wp, .bool pp, .bool mi, .bool pl, .bool sh, .bool sp, .bool ze] w fun e w' => e = .returned (.bool true) ∧ Below w.heap.size w w' := by
  by_cases hs : bs.length ≤ 1048576
  · by_cases hw : 0 ≤ wid ∧ wid ≤ 65536
    · by_cases hp : 0 ≤ prec
      · by_cases h1 : pp = true ∧ prec < bs.length
        · exact bmMain p cap bs prec.toNat up wid prec wp pp mi pl sh sp ze w hg1 hr hc hs hw.1 hw.2 hp (.inl ⟨h1.1, h1.2, by omega⟩)
        · refine bmMain p cap bs bs.length up wid prec wp pp mi pl sh sp ze w hg1 hr hc hs hw.1 hw.2 hp (.inr ?_)
          cases pp
          · exact .inl ⟨rfl, rfl⟩
          · exact .inr ⟨rfl, fun h => h1 ⟨rfl, h⟩, rfl⟩
      · obtain ⟨hw1, hw2⟩ := hw
        have hp2 : prec < 0 := by omega
        clear hg1 hp hr hc
        go_enter Tryd.func6, Tryd.ntmps6
        go_wp2_with (fail)
        refine (guardBM p bs.length cap _ _ _ _ _ _ _ _ _ _ true w (by omega) (by simpa using hs)).mono ?_
        rintro e w' ⟨rfl, rfl⟩
        go_wp2
        go_ret
        exact ⟨rfl, Below.refl _ _⟩
    · clear hg1 hr hc
      by_cases hw1 : wid < 0
      · clear hw
        go_enter Tryd.func6, Tryd.ntmps6
        go_wp2_with (fail)
        refine (guardBM p bs.length cap _ _ _ _ _ _ _ _ _ _ true w (by omega) (by simpa using hs)).mono ?_
        rintro e w' ⟨rfl, rfl⟩
        go_wp2
        go_ret
        exact ⟨rfl, Below.refl _ _⟩
      · have hw2 : 65536 < wid := by omega
        have hw3 : 0 ≤ wid := by omega
        clear hw hw1
        go_enter Tryd.func6, Tryd.ntmps6
        go_wp2_with (fail)
        refine (guardBM p bs.length cap _ _ _ _ _ _ _ _ _ _ true w (by omega) (by simpa using hs)).mono ?_
        rintro e w' ⟨rfl, rfl⟩
        go_wp2
        go_ret
        exact ⟨rfl, Below.refl _ _⟩
  · clear hg1 hr hc
    go_enter Tryd.func6, Tryd.ntmps6
    go_wp2_with (fail)
    refine (guardBM p bs.length cap _ _ _ _ _ _ _ _ _ _ false w (by omega) (by simpa using hs)).mono ?_
    rintro e w' ⟨rfl, rfl⟩
    go_wp2
    go_ret
    exact ⟨rfl, Below.refl _ _⟩
end Go.Proofs.YtcfllmebcfimeaaDoor.Fm
namespace Go.Proofs.YtcfllmebcfimeaaDoor
open Go.Proofs.YtcfllmebcfimeaaDoor.Fm
theorem Fm.maxl_ba {w : World} (h : laidMetH Tryd.prog Rows.fnFmtBxAgreesWithFmtSxRow.laid w) : w.cell? ⟨0, 0, none⟩ = some (.int .i64 2147483647) := by
  rw [MakeChecks.laidMetH_plain _ _ _ (by kernel_rfl)] at h
  exact LawFrame.laid_int h (List.mem_cons_of_mem _ (List.mem_cons_self ..)) (by kernel_rfl) (by kernel_rfl) Tryd.underlying3
theorem fnFmtBxAgreesWithFmtSx.walk (a0 : Option Addr) (len0 cap0 : Nat) (z0 : List Int) (a1 : Bool) (a2 : Int) (a3 : Int) (a4 : Bool) (a5 : Bool) (a6 : Bool) (a7 : Bool) (a8 : Bool) (a9 : Bool) (a10 : Bool) (w : World) (w0 : LawFrame.IsRow .u8 1 w a0 len0 cap0 z0) (_w2 : (Lit.int .i64 a2).wf = true) (_w3 : (Lit.int .i64 a3).wf = true) (hL : laidMetH Tryd.prog Rows.fnFmtBxAgreesWithFmtSxRow.laid w) :
    Calls Tryd.prog 3 #[.slice a0 len0 cap0, .bool a1, .int .i64 a2, .int .i64 a3, .bool a4, .bool a5, .bool a6, .bool a7, .bool a8, .bool a9, .bool a10] w fun e w' => e = .returned (.bool true) ∧ RowKit.Below w.heap.size w w' := by
  obtain ⟨bs, hr, hc, _, hsz⟩ := Go.Fmt.rowAt_of w0
  obtain rfl := hr.len
  exact lbaLaw a0 cap0 bs a1 a2 a3 a4 a5 a6 a7 a8 a9 a10 w (maxl_ba hL) hr hc hsz
theorem Fm.maxl_bm {w : World} (h : laidMetH Tryd.prog Rows.fnFmtBxMatchesHexModelRow.laid w) : w.cell? ⟨0, 0, none⟩ = some (.int .i64 2147483647) := by
  rw [MakeChecks.laidMetH_plain _ _ _ (by kernel_rfl)] at h
  exact LawFrame.laid_int h (List.mem_cons_of_mem _ (List.mem_cons_self ..)) (by kernel_rfl) (by kernel_rfl) Tryd.underlying3
theorem fnFmtBxMatchesHexModel.walk (a0 : Option Addr) (len0 cap0 : Nat) (z0 : List Int) (a1 : Bool) (a2 : Int) (a3 : Int) (a4 : Bool) (a5 : Bool) (a6 : Bool) (a7 : Bool) (a8 : Bool) (a9 : Bool) (a10 : Bool) (w : World) (w0 : LawFrame.IsRow .u8 1 w a0 len0 cap0 z0) (_w2 : (Lit.int .i64 a2).wf = true) (_w3 : (Lit.int .i64 a3).wf = true) (hL : laidMetH Tryd.prog Rows.fnFmtBxMatchesHexModelRow.laid w) :
    Calls Tryd.prog 6 #[.slice a0 len0 cap0, .bool a1, .int .i64 a2, .int .i64 a3, .bool a4, .bool a5, .bool a6, .bool a7, .bool a8, .bool a9, .bool a10] w fun e w' => e = .returned (.bool true) ∧ RowKit.Below w.heap.size w w' := by
  obtain ⟨bs, hr, hc, _, hsz⟩ := Go.Fmt.rowAt_of w0
  obtain rfl := hr.len
  exact lbmLaw a0 cap0 bs a1 a2 a3 a4 a5 a6 a7 a8 a9 a10 w (maxl_bm hL) hr hc hsz
end Go.Proofs.YtcfllmebcfimeaaDoor
