/- The laws on fmtSx: their walks. -/
import Derived.Test.YtcfllmebcfimeaaDoorHexW
import Derived.Test.YtcfllmebcfimeaaDoorFrame
import Derived.Test.YtcfllmebcfimeaaDoorRows
namespace Go.Proofs.YtcfllmebcfimeaaDoor.Fm
open Go.ChangeShapes Go.WideShapes Go.ChangeAt Go.RowKit Go.Fmt

theorem padB_zpad (f : Flags) (T : List UInt8) : padB f T = zpad T T.length f.wid f.widP f.minus f.zero := by
  unfold padB zpad
  by_cases h : f.widP = false
  · rw [if_pos h, if_pos (Or.inl h)]
  · rw [if_neg h]
    by_cases h2 : f.wid ≤ (T.length : Int)
    · rw [if_pos (Or.inr h2), show (f.wid - (T.length : Int)).toNat = 0 by omega]
      simp
    · have h3 : ¬ (f.widP = false ∨ f.wid ≤ (T.length : Int)) := fun e => Or.elim e h h2
      rw [if_neg h3]

set_option maxHeartbeats 1000000 in
theorem guardSM (s : ByteArray) (v1 v2 v3 v4 v5 v6 v7 v8 v9 v10 : Value) (b : Bool) (w : World) (hsz : s.size ≤ 140737488351232) (hb : decide (s.size ≤ 1048576) = b) :
    Calls Tryd.prog 19 #[.string s, v1, v2, v3, v4, v5, v6, v7, v8, v9, v10] w fun e w' => e = .returned (.bool b) ∧ w = w' := by
  subst hb
  by_cases h : s.size ≤ 1048576
  all_goals
    go_enter Tryd.func19, Tryd.ntmps19
    go_wp2
    go_ret
    exact ⟨by simp [h], rfl⟩

set_option maxHeartbeats 1000000 in
theorem guardSC (s : ByteArray) (v1 v2 v3 v4 v5 v6 v7 v8 v9 : Value) (b : Bool) (w : World) (hsz : s.size ≤ 140737488351232) (hb : decide (s.size ≤ 1048576) = b) :
    Calls Tryd.prog 22 #[.string s, v1, v2, v3, v4, v5, v6, v7, v8, v9] w fun e w' => e = .returned (.bool b) ∧ w = w' := by
  subst hb
  by_cases h : s.size ≤ 1048576
  all_goals
    go_enter Tryd.func22, Tryd.ntmps22
    go_wp2
    go_ret
    exact ⟨by simp [h], rfl⟩

set_option maxRecDepth 100000 in
set_option maxHeartbeats 2000000 in
theorem sxMain (s : ByteArray) (K : Nat) (up : Bool) (wid prec : Int) (wp pp mi pl sh sp ze : Bool) (w : World) (hg1 : w.cell? ⟨0, 0, none⟩ = some (.int .i64 2147483647)) (hs : s.size ≤ 1048576)
    (hw1 : 0 ≤ wid) (hw2 : wid ≤ 65536) (hp : 0 ≤ prec) (hk : (pp = true ∧ prec < s.size ∧ prec = K) ∨ (pp = false ∧ K = s.size) ∨ (pp = true ∧ ¬ prec < s.size ∧ K = s.size)) :
    Calls Tryd.prog 4 #[.string s, .bool up, .int .i64 wid, .int .i64 prec, .bool wp, .bool pp, .bool mi, .bool pl, .bool sh, .bool sp, .bool ze] w fun e w' => e = .returned (.bool true) ∧ Below w.heap.size w w' := by
  have hsl : s.data.toList.length = s.size := Array.length_toList ..
  have hkK : hexK pp prec s.data.toList.length = K := by
    unfold hexK
    rw [hsl]
    rcases hk with ⟨rfl, h1, rfl⟩ | ⟨rfl, rfl⟩ | ⟨rfl, h1, rfl⟩
    · rw [if_pos ⟨rfl, h1⟩]
    · rw [if_neg (by simp)]
    · rw [if_neg (by simpa using h1)]
  have hKs : K ≤ s.size := by rcases hk with ⟨_, h1, h2⟩ | ⟨_, h2⟩ | ⟨_, _, h2⟩ <;> omega
  have hOut : ∃ T, T = hexText (digitsU up) sh sp s.data.toList K := ⟨_, rfl⟩
  obtain ⟨T, hT⟩ := hOut
  have hTl : T.length ≤ 5 * K + 2 := by rw [hT]; unfold hexText; split
                                        · simp
                                        · exact hexN_length_le _ _ _ _ _
  have hfo : hexOut ⟨wp, pp, mi, pl, sh, sp, ze, wid, prec⟩ (digitsU up) s.data.toList = zpad T T.length wid wp mi ze := by
    unfold hexOut
    rw [padB_zpad, hT]
    simp only [hkK, Int.toNat_natCast]
  have HO := Lib.hid hfo
  have HT := Lib.hid hT
  have hZ := Lib.hid (zzFmtSx ⟨wp, pp, mi, pl, sh, sp, ze, wid, prec⟩ s (digitsU up) wid prec wp pp mi pl sh sp ze rfl w hg1 hw1 hw2 (by omega) hp (digitsU_size up))
  clear hkK hT hfo hg1 hsl
  rcases hk with ⟨rfl, h1, rfl⟩ | ⟨rfl, rfl⟩ | ⟨rfl, h1, rfl⟩
  all_goals
    go_enter Tryd.func4, Tryd.ntmps4
    go_wp2_with (fail)
    refine (guardSM s _ _ _ _ _ _ _ _ _ _ true w (by omega) (by simpa using hs)).mono ?_
    rintro e w' ⟨rfl, rfl⟩
    go_wp2_with ((go_at_call 16; refine (zzDigits up _).mono ?_; rintro e w' ⟨rfl, rfl⟩))
    refine hZ.out.mono ?_
    rintro e w1 ⟨rfl, hb1⟩
    go_wp2_with (fail)
    refine (zzHexModel s _ up sh sp w1 hKs hs).mono ?_
    rintro e w2 ⟨gg, cap, rfl, hown, hb2⟩
    rw [← HT.out] at hown ⊢
    obtain ⟨hat, hlt, _⟩ := own_at hown
    clear hown
    go_wp2_with (fail)
    refine (zzPad T gg 0 cap T.length wid wp mi ze w2 hat hlt (by omega) hw2 (by omega)).mono ?_
    rintro e w3 ⟨rfl, hb3⟩
    clear hat
    rw [HO.out]
    go_wp2
    go_ret
    exact ⟨rfl, hb1.trans ((hb2.trans (hb3.mono hb2.size)).mono hb1.size)⟩
set_option maxRecDepth 100000 in
set_option maxHeartbeats 2000000 in
theorem sxMatches (s : ByteArray) (up : Bool) (wid prec : Int) (wp pp mi pl sh sp ze : Bool) (w : World) (hg1 : w.cell? ⟨0, 0, none⟩ = some (.int .i64 2147483647)) (hsz : s.size ≤ 140737488351232) :
    Calls Tryd.prog 4 #[.string s, .bool up, .int .i64 wid, .int .i64 prec, .bool wp, .bool pp, .bool mi, .bool pl, .bool sh, .bool sp, .bool ze] w fun e w' => e = .returned (.bool true) ∧ Below w.heap.size w w' := by
  by_cases hs : s.size ≤ 1048576
  · by_cases hw : 0 ≤ wid ∧ wid ≤ 65536
    · by_cases hp : 0 ≤ prec
      · by_cases h1 : pp = true ∧ prec < s.size
        · exact sxMain s prec.toNat up wid prec wp pp mi pl sh sp ze w hg1 hs hw.1 hw.2 hp (.inl ⟨h1.1, h1.2, by omega⟩)
        · refine sxMain s s.size up wid prec wp pp mi pl sh sp ze w hg1 hs hw.1 hw.2 hp (.inr ?_)
          cases pp
          · exact .inl ⟨rfl, rfl⟩
          · exact .inr ⟨rfl, fun h => h1 ⟨rfl, h⟩, rfl⟩
      · obtain ⟨hw1, hw2⟩ := hw
        have hp2 : prec < 0 := by omega
        clear hg1 hp
        go_enter Tryd.func4, Tryd.ntmps4
        go_wp2_with (fail)
        refine (guardSM s _ _ _ _ _ _ _ _ _ _ true w (by omega) (by simpa using hs)).mono ?_
        rintro e w' ⟨rfl, rfl⟩
        go_wp2
        go_ret
        exact ⟨rfl, Below.refl _ _⟩
    · clear hg1
      by_cases hw1 : wid < 0
      · clear hw
        go_enter Tryd.func4, Tryd.ntmps4
        go_wp2_with (fail)
        refine (guardSM s _ _ _ _ _ _ _ _ _ _ true w (by omega) (by simpa using hs)).mono ?_
        rintro e w' ⟨rfl, rfl⟩
        go_wp2
        go_ret
        exact ⟨rfl, Below.refl _ _⟩
      · have hw2 : 65536 < wid := by omega
        have hw3 : 0 ≤ wid := by omega
        clear hw hw1
        go_enter Tryd.func4, Tryd.ntmps4
        go_wp2_with (fail)
        refine (guardSM s _ _ _ _ _ _ _ _ _ _ true w (by omega) (by simpa using hs)).mono ?_
        rintro e w' ⟨rfl, rfl⟩
        go_wp2
        go_ret
        exact ⟨rfl, Below.refl _ _⟩
  · clear hg1
    go_enter Tryd.func4, Tryd.ntmps4
    go_wp2_with (fail)
    refine (guardSM s _ _ _ _ _ _ _ _ _ _ false w (by omega) (by simpa using hs)).mono ?_
    rintro e w' ⟨rfl, rfl⟩
    go_wp2
    go_ret
    exact ⟨rfl, Below.refl _ _⟩

theorem hexN_take (d : ByteArray) (sh sp : Bool) (src : List UInt8) (m : Nat) : ∀ k, k ≤ m → hexN d sh sp (src.take m) k = hexN d sh sp src k
  | 0, _ => rfl
  | k + 1, h => by
    rw [hexN, hexN, hexN_take d sh sp src m k (by omega)]
    have e : (src.take m).getD k 0 = src.getD k 0 := by
      rw [List.getD_eq_getElem?_getD, List.getD_eq_getElem?_getD, List.getElem?_take, if_pos (by omega)]
    rw [e]
theorem hexText_take (d : ByteArray) (sh sp : Bool) (src : List UInt8) (m : Nat) : hexText d sh sp (src.take m) m = hexText d sh sp src m := by
  unfold hexText
  split
  · rfl
  · exact hexN_take _ _ _ _ _ _ (Nat.le_refl _)
end Go.Proofs.YtcfllmebcfimeaaDoor.Fm
namespace Go.Proofs.YtcfllmebcfimeaaDoor
open Go.Proofs.YtcfllmebcfimeaaDoor.Fm
theorem Fm.maxl_sm {w : World} (h : laidMetH Tryd.prog Rows.fnFmtSxMatchesHexModelRow.laid w) : w.cell? ⟨0, 0, none⟩ = some (.int .i64 2147483647) := by
  rw [MakeChecks.laidMetH_plain _ _ _ (by kernel_rfl)] at h
  exact LawFrame.laid_int h (List.mem_cons_of_mem _ (List.mem_cons_self ..)) (by kernel_rfl) (by kernel_rfl) Tryd.underlying3
theorem fnFmtSxMatchesHexModel.walk (a0 : ByteArray) (a1 : Bool) (a2 : Int) (a3 : Int) (a4 : Bool) (a5 : Bool) (a6 : Bool) (a7 : Bool) (a8 : Bool) (a9 : Bool) (a10 : Bool) (w : World) (w0 : a0.size ≤ 140737488351232) (_w2 : (Lit.int .i64 a2).wf = true) (_w3 : (Lit.int .i64 a3).wf = true) (hL : laidMetH Tryd.prog Rows.fnFmtSxMatchesHexModelRow.laid w) :
    Calls Tryd.prog 4 #[.string a0, .bool a1, .int .i64 a2, .int .i64 a3, .bool a4, .bool a5, .bool a6, .bool a7, .bool a8, .bool a9, .bool a10] w fun e w' => e = .returned (.bool true) ∧ RowKit.Below w.heap.size w w' :=
  sxMatches a0 a1 a2 a3 a4 a5 a6 a7 a8 a9 a10 w (maxl_sm hL) w0
end Go.Proofs.YtcfllmebcfimeaaDoor
