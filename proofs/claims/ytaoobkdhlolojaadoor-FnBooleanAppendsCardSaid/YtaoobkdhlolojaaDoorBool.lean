/- fmtBoolean, and the law FnBooleanAppends: its walk. -/
import Derived.Test.YtaoobkdhlolojaaDoorNewF
import Derived.Test.YtaoobkdhlolojaaDoorFrame
import Derived.Outline
namespace Go.Proofs.YtaoobkdhlolojaaDoor.Fm
open Go.ChangeShapes Go.WideShapes Go.ChangeAt Go.RowKit Go.Fmt

theorem newLive (f : Flags) (w : World) (hM : 0 < w.heap.size) {e : Ending} {w' : World} (h : NewFmt w f e w') : ∃ F B, e = .returned (.pointer (some ⟨F, 0, none⟩)) ∧ Live w' w.heap.size w'.heap.size F B f [] ∧ Below w.heap.size w w' := by
  obtain ⟨F, B, he, h1, h2, h3, h4, h5, h6, h7, h8, h9⟩ := h
  exact ⟨F, B, he, ⟨h1, h2, h3, h7, hM, h4, Buf.of_nil h5 h6 h8 (Nat.le_refl _)⟩, h9⟩

def boolText (v : Bool) : List UInt8 := if v then [116, 114, 117, 101] else [102, 97, 108, 115, 101]

set_option maxHeartbeats 1000000 in
theorem fmtBoolean (N base F B : Nat) (f : Flags) (bs : List UInt8) (v : Bool) (w : World) (h : Live w N base F B f bs) (hg1 : w.cell? ⟨0, 0, none⟩ = some (.int .i64 2147483647))
    (hl : bs.length ≤ 1000000000) (hwl : 0 ≤ f.wid) (hwl2 : f.wid ≤ 65536) :
    Calls Tryd.prog 33 #[.pointer (some ⟨F, 0, none⟩), .bool v] w fun e w' => e = .returned (.tuple #[]) ∧ Live w' N base F B f (bs ++ padded f (boolText v)) ∧ Below N w w' := by
  cases v
  · have hC := Lib.hid (padSLive N base F B f bs ⟨#[102, 97, 108, 115, 101]⟩ w h hg1 (by simp; omega) (by omega) (by omega))
    go_enter Tryd.func33, Tryd.ntmps33
    go_wp2_with (fail)
    refine hC.out.mono ?_
    rintro e w' ⟨rfl, h1, h2⟩
    go_wp2
    go_end0
    exact ⟨rfl, h1, h2⟩
  · have hC := Lib.hid (padSLive N base F B f bs ⟨#[116, 114, 117, 101]⟩ w h hg1 (by simp; omega) (by omega) (by omega))
    go_enter Tryd.func33, Tryd.ntmps33
    go_wp2_with (fail)
    refine hC.out.mono ?_
    rintro e w' ⟨rfl, h1, h2⟩
    go_wp2
    go_end0
    exact ⟨rfl, h1, h2⟩

theorem zzBoolean (N base F B : Nat) (f : Flags) (bs : List UInt8) (v : Bool) (w : World) (h : Live w N base F B f bs) (hg1 : w.cell? ⟨0, 0, none⟩ = some (.int .i64 2147483647))
    (hl : bs.length ≤ 1000000000) (hwl : 0 ≤ f.wid) (hwl2 : f.wid ≤ 65536) :
    Calls Tryd.prog 21 #[.pointer (some ⟨F, 0, none⟩), .bool v] w fun e w' => e = .returned (.tuple #[]) ∧ Live w' N base F B f (bs ++ padded f (boolText v)) ∧ Below N w w' := by
  have hC := Lib.hid (fmtBoolean N base F B f bs v w h hg1 hl hwl hwl2)
  go_enter Tryd.func21, Tryd.ntmps21
  go_wp2_with (fail)
  refine hC.out.mono ?_
  rintro e w' ⟨rfl, h1, h2⟩
  go_wp2
  go_end0
  exact ⟨rfl, h1, h2⟩

theorem zzOut (N base F B : Nat) (f : Flags) (bs : List UInt8) (w : World) (h : Live w N base F B f bs) :
    Calls Tryd.prog 19 #[.pointer (some ⟨F, 0, none⟩)] w fun e w' => e = .returned (.string ⟨bs.toArray⟩) ∧ w = w' := by
  obtain ⟨p, cap, h1, h2, h3, h4, h5, h6, h7⟩ := h.buf
  have q0 := h.fmt.buf
  have hcv := conv_own (P := Tryd.prog) (src := 49) (dst := 9) bs rfl h3 Tryd.underlying49 Tryd.underlying5 Tryd.underlying9
  go_enter Tryd.func19, Tryd.ntmps19
  go_wp2
  go_ret
  exact ⟨rfl, rfl⟩

theorem cat_bytes (a b : List UInt8) : (⟨a.toArray⟩ ++ ⟨b.toArray⟩ : ByteArray) = ⟨(a ++ b).toArray⟩ := by
  apply ByteArray.ext
  simp
theorem boolText_length (v : Bool) : (boolText v).length ≤ 5 := by cases v <;> decide

set_option maxRecDepth 100000 in
set_option maxHeartbeats 2000000 in
theorem boolWalk (x y wp : Bool) (wid : Int) (mi ze : Bool) (w : World) (hg1 : w.cell? ⟨0, 0, none⟩ = some (.int .i64 2147483647)) :
    Calls Tryd.prog 7 #[.bool x, .bool y, .bool wp, .int .i64 wid, .bool mi, .bool ze] w fun e w' => e = .returned (.bool true) ∧ Below w.heap.size w w' := by
  by_cases h0 : wid < 0
  · go_enter Tryd.func7, Tryd.ntmps7
    go_wp2
    go_ret
    exact ⟨rfl, Below.refl _ _⟩
  by_cases h1 : 65536 < wid
  · go_enter Tryd.func7, Tryd.ntmps7
    go_wp2
    go_ret
    exact ⟨rfl, Below.refl _ _⟩
  have hM : 0 < w.heap.size := World.block_lt_of_cell? w ⟨0, 0, none⟩ hg1
  obtain ⟨f, hfe⟩ : ∃ f : Flags, f = ⟨wp, false, mi, false, false, false, ze, wid, 0⟩ := ⟨_, rfl⟩
  have hwid : f.wid = wid := by rw [hfe]
  have hx := padded_length f (boolText x)
  have hy := padded_length f (boolText y)
  have hx5 := boolText_length x
  have hy5 := boolText_length y
  rw [hwid] at hx hy
  have hN := Lib.hid (newF f wp wid false 0 mi false false false ze hfe)
  have hlo : 0 ≤ f.wid := by omega
  have hhi : f.wid ≤ 65536 := by omega
  clear hfe
  go_enter Tryd.func7, Tryd.ntmps7
  go_wp2_with (fail)
  refine (hN.out w).mono ?_
  intro e w1 hnew
  obtain ⟨F1, B1, rfl, hl1, hb1⟩ := newLive f w hM hnew
  have hm1 := maxl_below hb1 hM hg1
  have c1 := Lib.hid (zzBoolean _ _ F1 B1 f [] x w1 hl1 hm1 (by simp) hlo hhi)
  clear hnew
  go_wp2_with (fail)
  refine c1.out.mono ?_
  rintro e w2 ⟨rfl, hl2, hb2⟩
  rw [List.nil_append] at hl2
  have hm2 := maxl_below hb2 hM hm1
  have c2 := Lib.hid (zzBoolean _ _ F1 B1 f _ y w2 hl2 hm2 (by omega) hlo hhi)
  clear c1 hl1
  go_wp2_with (fail)
  refine c2.out.mono ?_
  rintro e w3 ⟨rfl, hl3, hb3⟩
  have hB3 : Below w.heap.size w w3 := hb1.trans (hb2.trans hb3)
  have hm3 := maxl_below hb3 hM hm2
  have hM3 : 0 < w3.heap.size := Nat.lt_of_lt_of_le hM hB3.size
  clear c2 hl2 hb1 hb2 hb3 hm1 hm2
  go_wp2_with (fail)
  refine (hN.out w3).mono ?_
  intro e w4 hnew
  obtain ⟨F2, B2, rfl, hl4, hb4⟩ := newLive f w3 hM3 hnew
  have hm4 := maxl_below hb4 hM3 hm3
  have c3 := Lib.hid (zzBoolean _ _ F2 B2 f [] x w4 hl4 hm4 (by simp) hlo hhi)
  clear hnew
  go_wp2_with (fail)
  refine c3.out.mono ?_
  rintro e w5 ⟨rfl, hl5, hb5⟩
  rw [List.nil_append] at hl5
  have hB5 : Below w3.heap.size w3 w5 := hb4.trans hb5
  have hm5 := maxl_below hb5 hM3 hm4
  have hM5 : 0 < w5.heap.size := Nat.lt_of_lt_of_le hM3 hB5.size
  have hl35 := hl3.grow hB5
  clear c3 hl4 hb4 hb5 hm3 hm4
  go_wp2_with (fail)
  refine (hN.out w5).mono ?_
  intro e w6 hnew
  obtain ⟨F3, B3, rfl, hl6, hb6⟩ := newLive f w5 hM5 hnew
  have hm6 := maxl_below hb6 hM5 hm5
  have c4 := Lib.hid (zzBoolean _ _ F3 B3 f [] y w6 hl6 hm6 (by simp) hlo hhi)
  clear hnew
  go_wp2_with (fail)
  refine c4.out.mono ?_
  rintro e w7 ⟨rfl, hl7, hb7⟩
  rw [List.nil_append] at hl7
  have hB7 : Below w5.heap.size w5 w7 := hb6.trans hb7
  have hl37 := hl35.grow hB7
  have hl57 := hl5.grow hB7
  have o1 := Lib.hid (zzOut _ _ F1 B1 f _ w7 hl37)
  have o2 := Lib.hid (zzOut _ _ F2 B2 f _ w7 hl57)
  have o3 := Lib.hid (zzOut _ _ F3 B3 f _ w7 hl7)
  have hcat := cat_bytes (padded f (boolText x)) (padded f (boolText y))
  have hlx : (padded f (boolText x)).length ≤ 65541 := by omega
  have hly : (padded f (boolText y)).length ≤ 65541 := by omega
  clear c4 hN hm5 hm6 hx hy
  generalize padded f (boolText x) = tx at *
  generalize padded f (boolText y) = ty at *
  go_wp2_with (fail)
  refine o1.out.mono ?_
  rintro e w' ⟨rfl, rfl⟩
  go_wp2_with (fail)
  refine o2.out.mono ?_
  rintro e w' ⟨rfl, rfl⟩
  go_wp2_with (fail)
  refine o3.out.mono ?_
  rintro e w' ⟨rfl, rfl⟩
  go_wp2
  go_ret
  exact ⟨rfl, hB3.trans ((hB5.trans (hB7.mono hB5.size)).mono hB3.size)⟩
end Go.Proofs.YtaoobkdhlolojaaDoor.Fm
namespace Go.Proofs.YtaoobkdhlolojaaDoor
open Go.Proofs.YtaoobkdhlolojaaDoor.Fm
theorem Fm.maxl_of {w : World} (h : laidMetH Tryd.prog Rows.fnBooleanAppendsRow.laid w) : w.cell? ⟨0, 0, none⟩ = some (.int .i64 2147483647) := by
  rw [MakeChecks.laidMetH_plain _ _ _ (by kernel_rfl)] at h
  exact LawFrame.laid_int h (List.mem_cons_of_mem _ (List.mem_cons_self ..)) (by kernel_rfl) (by kernel_rfl) Tryd.underlying3
theorem fnBooleanAppends.walk (a0 : Bool) (a1 : Bool) (a2 : Bool) (a3 : Int) (a4 : Bool) (a5 : Bool) (w : World) (_w3 : (Lit.int .i64 a3).wf = true) (hL : laidMetH Tryd.prog Rows.fnBooleanAppendsRow.laid w) :
    Calls Tryd.prog 7 #[.bool a0, .bool a1, .bool a2, .int .i64 a3, .bool a4, .bool a5] w fun e w' => e = .returned (.bool true) ∧ RowKit.Below w.heap.size w w' :=
  boolWalk a0 a1 a2 a3 a4 a5 w (maxl_of hL)
end Go.Proofs.YtaoobkdhlolojaaDoor
