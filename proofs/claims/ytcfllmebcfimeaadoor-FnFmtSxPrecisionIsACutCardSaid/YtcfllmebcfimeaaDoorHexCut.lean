/- The law that a precision is a cut of the string: its walk. -/
import Derived.Test.YtcfllmebcfimeaaDoorHexLaw
namespace Go.Proofs.YtcfllmebcfimeaaDoor.Fm
open Go.ChangeShapes Go.WideShapes Go.ChangeAt Go.RowKit Go.Fmt

theorem extract_take (s : ByteArray) (n : Nat) : (s.extract 0 n).data.toList = s.data.toList.take n := by
  rw [ByteArray.data_extract]
  simp

theorem hexOut_cut (p : Int) (d s t : ByteArray) (wp mi pl sh sp ze : Bool) (wid : Int) (hp : 0 ≤ p) (ht : t.data.toList = s.data.toList.take p.toNat) :
    hexOut ⟨wp, true, mi, pl, sh, sp, ze, wid, p⟩ d s.data.toList = hexOut ⟨wp, false, mi, pl, sh, sp, ze, wid, 0⟩ d t.data.toList := by
  unfold hexOut
  have e1 : (hexK true p s.data.toList.length).toNat = min p.toNat s.data.toList.length := by unfold hexK; split <;> simp at * <;> omega
  have e2 : (hexK false 0 t.data.toList.length).toNat = min p.toNat s.data.toList.length := by
    unfold hexK
    rw [if_neg (by simp), ht]
    simp
  simp only [e1, e2]
  have e3 : hexText d sh sp t.data.toList (min p.toNat s.data.toList.length) = hexText d sh sp s.data.toList (min p.toNat s.data.toList.length) := by
    rw [ht]
    by_cases h : p.toNat ≤ s.data.toList.length
    · rw [Nat.min_eq_left h]
      exact hexText_take _ _ _ _ _
    · rw [List.take_of_length_le (by omega)]
  rw [e3]
  rfl

set_option maxRecDepth 100000 in
set_option maxHeartbeats 2000000 in
theorem sxCut (s : ByteArray) (up : Bool) (p wid : Int) (wp mi pl sh sp ze : Bool) (w : World) (hg1 : w.cell? ⟨0, 0, none⟩ = some (.int .i64 2147483647)) (hsz : s.size ≤ 140737488351232) :
    Calls Tryd.prog 5 #[.string s, .bool up, .int .i64 p, .int .i64 wid, .bool wp, .bool mi, .bool pl, .bool sh, .bool sp, .bool ze] w fun e w' => e = .returned (.bool true) ∧ Below w.heap.size w w' := by
  by_cases hs : s.size ≤ 1048576
  · by_cases hw : 0 ≤ wid ∧ wid ≤ 65536
    · by_cases hp : 0 ≤ p
      · obtain ⟨hw1, hw2⟩ := hw
        have hM : 0 < w.heap.size := World.block_lt_of_cell? w ⟨0, 0, none⟩ hg1
        have hsl : s.data.toList.length = s.size := Array.length_toList ..
        have hZ := Lib.hid (zzFmtSx ⟨wp, true, mi, pl, sh, sp, ze, wid, p⟩ s (digitsU up) wid p wp true mi pl sh sp ze rfl w hg1 hw1 hw2 (by omega) hp (digitsU_size up))
        by_cases h1 : p < s.size
        · have hH := Lib.hid (hexOut_cut p (digitsU up) s (s.extract 0 p.toNat) wp mi pl sh sp ze wid hp (extract_take s p.toNat))
          go_enter Tryd.func5, Tryd.ntmps5
          go_wp2_with (fail)
          refine (guardSC s _ _ _ _ _ _ _ _ _ true w (by omega) (by simpa using hs)).mono ?_
          rintro e w' ⟨rfl, rfl⟩
          go_wp2_with ((go_at_call 16; refine (zzDigits up _).mono ?_; rintro e w' ⟨rfl, rfl⟩))
          refine hZ.out.mono ?_
          rintro e w1 ⟨rfl, hb1⟩
          rw [hH.out]
          have hl2 : (s.extract 0 p.toNat).data.toList.length ≤ 1048576 := by rw [extract_take]; simp; omega
          have hZ2 := Lib.hid (zzFmtSx ⟨wp, false, mi, pl, sh, sp, ze, wid, 0⟩ (s.extract 0 p.toNat) (digitsU up) wid 0 wp false mi pl sh sp ze rfl w1 (maxl_below hb1 hM hg1) hw1 hw2 hl2 (by omega) (digitsU_size up))
          clear hg1 hl2
          go_wp2_with (fail)
          refine hZ2.out.mono ?_
          rintro e w2 ⟨rfl, hb2⟩
          go_wp2
          go_ret
          exact ⟨rfl, hb1.trans (hb2.mono hb1.size)⟩
        · have hH := Lib.hid (hexOut_cut p (digitsU up) s s wp mi pl sh sp ze wid hp (by rw [List.take_of_length_le (by omega)]))
          go_enter Tryd.func5, Tryd.ntmps5
          go_wp2_with (fail)
          refine (guardSC s _ _ _ _ _ _ _ _ _ true w (by omega) (by simpa using hs)).mono ?_
          rintro e w' ⟨rfl, rfl⟩
          go_wp2_with ((go_at_call 16; refine (zzDigits up _).mono ?_; rintro e w' ⟨rfl, rfl⟩))
          refine hZ.out.mono ?_
          rintro e w1 ⟨rfl, hb1⟩
          rw [hH.out]
          have hZ2 := Lib.hid (zzFmtSx ⟨wp, false, mi, pl, sh, sp, ze, wid, 0⟩ s (digitsU up) wid 0 wp false mi pl sh sp ze rfl w1 (maxl_below hb1 hM hg1) hw1 hw2 (by omega) (by omega) (digitsU_size up))
          clear hg1
          go_wp2_with (fail)
          refine hZ2.out.mono ?_
          rintro e w2 ⟨rfl, hb2⟩
          go_wp2
          go_ret
          exact ⟨rfl, hb1.trans (hb2.mono hb1.size)⟩
      · obtain ⟨hw1, hw2⟩ := hw
        have hp2 : p < 0 := by omega
        clear hg1 hp
        go_enter Tryd.func5, Tryd.ntmps5
        go_wp2_with (fail)
        refine (guardSC s _ _ _ _ _ _ _ _ _ true w (by omega) (by simpa using hs)).mono ?_
        rintro e w' ⟨rfl, rfl⟩
        go_wp2
        go_ret
        exact ⟨rfl, Below.refl _ _⟩
    · clear hg1
      by_cases hw1 : wid < 0
      · clear hw
        go_enter Tryd.func5, Tryd.ntmps5
        go_wp2_with (fail)
        refine (guardSC s _ _ _ _ _ _ _ _ _ true w (by omega) (by simpa using hs)).mono ?_
        rintro e w' ⟨rfl, rfl⟩
        go_wp2
        go_ret
        exact ⟨rfl, Below.refl _ _⟩
      · have hw2 : 65536 < wid := by omega
        have hw3 : 0 ≤ wid := by omega
        clear hw hw1
        go_enter Tryd.func5, Tryd.ntmps5
        go_wp2_with (fail)
        refine (guardSC s _ _ _ _ _ _ _ _ _ true w (by omega) (by simpa using hs)).mono ?_
        rintro e w' ⟨rfl, rfl⟩
        go_wp2
        go_ret
        exact ⟨rfl, Below.refl _ _⟩
  · clear hg1
    go_enter Tryd.func5, Tryd.ntmps5
    go_wp2_with (fail)
    refine (guardSC s _ _ _ _ _ _ _ _ _ false w (by omega) (by simpa using hs)).mono ?_
    rintro e w' ⟨rfl, rfl⟩
    go_wp2
    go_ret
    exact ⟨rfl, Below.refl _ _⟩
end Go.Proofs.YtcfllmebcfimeaaDoor.Fm
namespace Go.Proofs.YtcfllmebcfimeaaDoor
open Go.Proofs.YtcfllmebcfimeaaDoor.Fm
theorem Fm.maxl_sc {w : World} (h : laidMetH Tryd.prog Rows.fnFmtSxPrecisionIsACutRow.laid w) : w.cell? ⟨0, 0, none⟩ = some (.int .i64 2147483647) := by
  rw [MakeChecks.laidMetH_plain _ _ _ (by kernel_rfl)] at h
  exact LawFrame.laid_int h (List.mem_cons_of_mem _ (List.mem_cons_self ..)) (by kernel_rfl) (by kernel_rfl) Tryd.underlying3
theorem fnFmtSxPrecisionIsACut.walk (a0 : ByteArray) (a1 : Bool) (a2 : Int) (a3 : Int) (a4 : Bool) (a5 : Bool) (a6 : Bool) (a7 : Bool) (a8 : Bool) (a9 : Bool) (w : World) (w0 : a0.size ≤ 140737488351232) (_w2 : (Lit.int .i64 a2).wf = true) (_w3 : (Lit.int .i64 a3).wf = true) (hL : laidMetH Tryd.prog Rows.fnFmtSxPrecisionIsACutRow.laid w) :
    Calls Tryd.prog 5 #[.string a0, .bool a1, .int .i64 a2, .int .i64 a3, .bool a4, .bool a5, .bool a6, .bool a7, .bool a8, .bool a9] w fun e w' => e = .returned (.bool true) ∧ RowKit.Below w.heap.size w w' :=
  sxCut a0 a1 a2 a3 a4 a5 a6 a7 a8 a9 w (maxl_sc hL) w0
end Go.Proofs.YtcfllmebcfimeaaDoor
