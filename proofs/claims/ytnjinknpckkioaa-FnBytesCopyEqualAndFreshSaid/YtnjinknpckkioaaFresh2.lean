/- The law FnBytesCopyEqualAndFresh: its walk. -/
import Derived.Test.YtnjinknpckkioaaFresh
import Derived.Test.YtnjinknpckkioaaCut
namespace Go.Proofs.Ytnjinknpckkioaa.Fm
open Go.ChangeShapes Go.WideShapes Go.ChangeAt Go.RowKit Go.Fmt

theorem ByAt.drewN {w : World} {B n : Nat} {p : Option Addr} {cap : Nat} {bs : List UInt8} (h : ByAt w B p cap bs) : ByAt (w.drewN n) B p cap bs := ⟨h.cell, h.row, h.nil⟩
theorem below_drewN' {B n : Nat} {w w' : World} (h : Below B w w') : Below B w (w'.drewN n) := ⟨h.os, h.tape, h.output, h.size, h.block⟩

set_option maxRecDepth 100000 in
set_option maxHeartbeats 4000000 in
theorem cfMain (p : Option Addr) (cap : Nat) (bs : List UInt8) (w : World) (hr : RowAt w p bs.length bs) (hc : p = none → cap = 0) (hs : bs.length ≤ 1048576) :
    Calls Try.prog 5 #[.slice p bs.length cap] w fun e w' => e = .returned (.bool true) ∧ Below w.heap.size w w' := by
  have HG := Lib.hid (decide_eq_true hs)
  have HC := Lib.hid (zzClone p bs.length cap bs w hr hs hc)
  have hm1 := m_string
  have hm2 := m_equals
  have hm3 := m_falsy
  have hm4 := m_name
  obtain ⟨bz, hbz⟩ : ∃ bz : Bool, bz = decide (bs.length = 0) := ⟨_, rfl⟩
  have HBZ := Lib.hid hbz
  have hz : ((bs.length : Int) == 0) = bz := by rw [hbz, Bool.eq_iff_iff]; simp
  clear hr hc hbz
  go_enter Try.func5, Try.ntmps5
  go_wp2_with (fail)
  refine (guardCF _ _ _ _ (by omega)).mono ?_
  rintro e w' ⟨rfl, rfl⟩
  rw [HG.out]
  go_wp2_with (fail)
  refine HC.out.mono ?_
  intro e w1 hcp
  obtain ⟨q, c, rfl, hX1, hb1⟩ := clone_own hcp
  have HX1 := Lib.hid hX1
  have HC2 := Lib.hid (zzClone q bs.length c bs w1 (RowAt.of_own hX1) hs (own_nil hX1))
  clear hcp hX1 HC
  go_wp2_with (fail)
  refine HC2.out.mono ?_
  intro e w2 hcp
  obtain ⟨q2, c2, rfl, hM2, hb2⟩ := clone_own hcp
  have HM2 := Lib.hid hM2
  have HX2 := Lib.hid (own_old HX1.out hb2)
  clear hcp hM2 HC2
  obtain ⟨w3, hw3⟩ : ∃ w3, w3 = w2.alloc (.cells #[.slice q bs.length c] 29) := ⟨_, rfl⟩
  have hBy3 := boxed (RowAt.of_own HX2.out) (own_nil HX2.out)
  have hb3 : Below w2.heap.size w2 (w2.alloc (.cells #[.slice q bs.length c] 29)) := (Below.refl _ _).alloc (Nat.le_refl _) _
  rw [← hw3] at hBy3 hb3
  have HBy3 := Lib.hid hBy3
  have HW3 := Lib.hid hw3
  have hCp := Lib.hid (bCopy _ _ _ _ _ hBy3 (by omega))
  clear hw3 hBy3
  go_wp2_with (fail)
  rw [← HW3.out]
  refine hCp.out.mono ?_
  rintro e w4 ⟨C, p4, cap4, rfl, hC4, h2, h3, h4, hb4⟩
  have HC4 := Lib.hid h3
  have HO4 := Lib.hid h4
  have hBC : ByAt w4 C p4 cap4 bs := ⟨h3, RowAt.of_own h4, own_nil h4⟩
  have HBC := Lib.hid hBC
  have HBX := Lib.hid (HBy3.out.old hb4)
  have hb34 := hb4.size
  clear h2 h3 h4 hCp hBC
  go_wp2_with ((go_at_call 9; refine (bName _ _).mono ?_; rintro e w' ⟨rfl, rfl⟩))
  refine (bString _ _ _ _ _ HBC.out).mono ?_
  rintro e w' ⟨rfl, rfl⟩
  have hb24 : Below w2.heap.size w2 w4 := hb3.trans (hb4.mono hb3.size)
  have HM4 := Lib.hid (own_old HM2.out hb24)
  go_wp2_with (fail)
  refine (sameText _ _ _ _ _ (RowAt.of_own HM4.out) (by omega)).mono ?_
  rintro e w5 ⟨rfl, hb5⟩
  rw [decide_eq_true (rfl : bs = bs)]
  have HBC5 := Lib.hid (HBC.out.old hb5)
  have HBX5 := Lib.hid (HBX.out.old hb5)
  go_wp2_with (fail)
  refine (bEquals _ _ _ _ _ _ _ _ _ HBC5.out HBX5.out).mono ?_
  rintro e w6 ⟨rfl, n6, rfl⟩
  rw [decide_eq_true (rfl : bs = bs)]
  go_wp2_with (fail)
  refine (bEquals _ _ _ _ _ _ _ _ _ HBX5.out.drewN HBC5.out.drewN).mono ?_
  rintro e w7 ⟨rfl, n7, rfl⟩
  rw [decide_eq_true (rfl : bs = bs)]
  go_wp2_with (fail)
  refine (bFalsy _ _ _ _ _ HBC5.out.drewN).mono ?_
  rintro e w8 ⟨rfl, rfl⟩
  rw [← HBZ.out]
  obtain ⟨w8, hw8⟩ : ∃ w8, w8 = w5.drewN (n6 + n7) := ⟨_, rfl⟩
  have hBX8 : ByAt w8 w2.heap.size q c bs := by rw [hw8]; exact HBX5.out.drewN
  have hBC8 : ByAt w8 C p4 cap4 bs := by rw [hw8]; exact HBC5.out.drewN
  have hb48 : Below w4.heap.size w4 w8 := by rw [hw8]; exact below_drewN' hb5
  have HB8 := Lib.hid hBX8
  have HC8 := Lib.hid hBC8
  have HW8 := Lib.hid hw8
  clear hw8 hBX8 hBC8
  go_wp2_with (fail)
  rw [← HW8.out]
  have hb28 : Below w2.heap.size w2 w8 := hb24.trans (hb48.mono hb24.size)
  have HX8 := Lib.hid (own_old HX2.out hb28)
  have HM8 := Lib.hid (own_old HM2.out hb28)
  have HO8 := Lib.hid (own_old HO4.out hb48)
  refine wp_loop (fun a' w' => ∃ g : Nat → Value, (∃ k : Nat, g 6 = .int .i64 k ∧ k ≤ bs.length ∧ Hid (Turned w8 w' q bs k)) ∧ a' = ⟨#[g 0, g 1, .bool false, .slice q2 bs.length c2, .pointer (some ⟨w2.heap.size, 0, none⟩), .iface 25 (.pointer (some ⟨C, 0, none⟩)), g 6, g 7, g 8, g 9, g 10, g 11, g 12, g 13, g 14, g 15, g 16, g 17, g 18, g 19, g 20, g 21, g 22, g 23, g 24, g 25, g 26, g 27, g 28, g 29, g 30, g 31, g 32, g 33, g 34, g 35, g 36, g 37, g 38, g 39, g 40, g 41, g 42, g 43, g 44, g 45, g 46, g 47, g 48, g 49, g 50, g 51, g 52, g 53, g 54, g 55, g 56, g 57, g 58, g 59, g 60, g 61, g 62, g 63, g 64, g 65, g 66, g 67, g 68, g 69, g 70, g 71, g 72, g 73, g 74, g 75, g 76, g 77, g 78, g 79, g 80, g 81, g 82, g 83, g 84, g 85, g 86, g 87], []⟩) (fun a' _ => bs.length - (intOf (a'.tmps.getD 6 undef)).toNat) ?start ?round
  case start =>
    refine meetG (by kernel_rfl) ?_
    exact ⟨0, rfl, Nat.zero_le _, Lib.hid (turned_start HX8.out)⟩
  case round =>
    rintro _ wr ⟨g, ⟨k, h6, hk, HT⟩, rfl⟩
    rw [h6]
    clear h6
    have hXc : wr.cell? ⟨w2.heap.size, 0, none⟩ = some (.slice q bs.length c) := by
      rcases HT.out with ⟨_, _, rfl⟩ | ⟨gg, hq, _, hgr⟩
      · exact HB8.out.cell
      · have h1 := (HX1.out.lt gg (by rw [hq]; rfl)).2
        have h2 := hb2.size
        refine hgr.cell HB8.out.cell (fun e => ?_)
        have e' : w2.heap.size = gg := by simpa using e
        omega
    by_cases hlt : k < bs.length
    · rcases HT.out with ⟨_, rfl, _⟩ | ⟨gg, rfl, hcs, hgr⟩
      · simp at hlt
      have hck := (hcs k hlt).1
      rw [if_neg (Nat.lt_irrefl k)] at hck
      have hfk := (hcs k hlt).2
      have hi0 : (0 : Int) ≤ (k : Int) := by omega
      have hi1 : (k : Int) < (bs.length : Int) := by omega
      have hxo := xor255 bs[k]
      have HS := Lib.hid (fun w2 h2 h3 h4 h5 => turned_step hlt hcs hgr w2 h2 h3 h4 h5)
      clear hcs hgr HT hz
      go_upto_region 20 with (fail)
      go_still_tail 14, (by kernel_rfl)
      change wpList _ _ _ _ _ wr.drew
      go_wp2
      refine ⟨meetG (by kernel_rfl) ?_, ?_⟩
      · exact ⟨k + 1, by go_num, hlt, Lib.hid (HS.out _ rfl rfl rfl rfl)⟩
      · simp [intOf]
        omega
    · obtain rfl : k = bs.length := by omega
      have hgr : ∃ gr : Option Nat, w8.grownBy wr gr ∧ ∀ x, gr = some x → w.heap.size ≤ x ∧ x < w1.heap.size := by
        rcases HT.out with ⟨_, _, rfl⟩ | ⟨gg, hq, _, hgr⟩
        · exact ⟨none, ⟨rfl, rfl, rfl, Nat.le_refl _, fun _ _ _ => rfl⟩, fun x h => by cases h⟩
        · exact ⟨some gg, hgr, fun x h => by cases h; exact HX1.out.lt gg (by rw [hq]; rfl)⟩
      obtain ⟨gr, hgr, hgl⟩ := hgr
      have hz2 := hb2.size
      have hz3 := hb3.size
      have hMr : wr.ownsRow w1.heap.size 5 1 (.slice q2 bs.length c2) bs.length (bcells bs) :=
        ownsRow_below HM8.out fun x hx => hgr.block x (HM8.out.lt x hx).2 (fun e => by have h1 := (HM8.out.lt x hx).1; have h2 := (hgl x e.symm).2; omega)
      have hOr : wr.ownsRow w3.heap.size 5 1 (.slice p4 bs.length cap4) bs.length (bcells bs) :=
        ownsRow_below HO8.out fun x hx => hgr.block x (HO8.out.lt x hx).2 (fun e => by have h1 := (HO8.out.lt x hx).1; have h2 := (hgl x e.symm).2; omega)
      have hCr : ByAt wr C p4 cap4 bs := ⟨hgr.cell HC8.out.cell (fun e => by have h2 := (hgl C e.symm).2; omega), RowAt.of_own hOr, own_nil hOr⟩
      have hXr : ByAt wr w2.heap.size q c (bs.map fun b => 255 - b) := ⟨by rw [List.length_map]; exact hXc, by rw [List.length_map]; exact turned_row HT.out, HB8.out.nil⟩
      have HMr := Lib.hid hMr
      have HCr := Lib.hid hCr
      have HXr := Lib.hid hXr
      have hbr : Below w.heap.size w wr := by
        have h08 : Below w.heap.size w w8 := hb1.trans (((hb2.trans (hb28.mono hb2.size))).mono hb1.size)
        exact h08.grown hgr h08.size (fun x hx => (hgl x hx).1)
      clear hMr hOr hCr hXr hgr hgl hz
      go_wp2_with (fail)
      refine (bString _ _ _ _ _ HCr.out).mono ?_
      rintro e w' ⟨rfl, rfl⟩
      go_wp2_with (fail)
      refine (sameText _ _ _ _ _ (RowAt.of_own HMr.out) (by omega)).mono ?_
      rintro e w9 ⟨rfl, hb9⟩
      rw [decide_eq_true (rfl : bs = bs)]
      by_cases hpos : 0 < bs.length
      · have HD := Lib.hid (decide_eq_false (turned_ne bs hpos))
        go_wp2_with (fail)
        refine (bEquals _ _ _ _ _ _ _ _ _ (HCr.out.old hb9) (HXr.out.old hb9)).mono ?_
        rintro e w10 ⟨rfl, n10, rfl⟩
        rw [HD.out]
        go_wp2
        go_ret
        exact ⟨rfl, below_drewN' (hbr.trans (hb9.mono hbr.size))⟩
      · go_wp2
        go_ret
        exact ⟨rfl, hbr.trans (hb9.mono hbr.size)⟩

theorem cfLaw (p : Option Addr) (cap : Nat) (bs : List UInt8) (w : World) (hr : RowAt w p bs.length bs) (hc : p = none → cap = 0) (hsz : bs.length ≤ 140737488351232) :
    Calls Try.prog 5 #[.slice p bs.length cap] w fun e w' => e = .returned (.bool true) ∧ Below w.heap.size w w' := by
  by_cases hs : bs.length ≤ 1048576
  · exact cfMain p cap bs w hr hc hs
  · have HG := Lib.hid (decide_eq_false hs)
    clear hr hc
    go_enter Try.func5, Try.ntmps5
    go_wp2_with (fail)
    refine (guardCF _ _ _ _ hsz).mono ?_
    rintro e w' ⟨rfl, rfl⟩
    rw [HG.out]
    go_wp2
    go_ret
    exact ⟨rfl, Below.refl _ _⟩
end Go.Proofs.Ytnjinknpckkioaa.Fm
namespace Go.Proofs.Ytnjinknpckkioaa
open Go.Proofs.Ytnjinknpckkioaa.Fm
theorem fnBytesCopyEqualAndFresh.walk (a0 : Option Addr) (len0 cap0 : Nat) (z0 : List Int) (w : World) (w0 : LawFrame.IsRow .u8 1 w a0 len0 cap0 z0) :
    Calls Try.prog 5 #[.slice a0 len0 cap0] w fun e w' => e = .returned (.bool true) ∧ RowKit.Below w.heap.size w w' := by
  obtain ⟨bs, hr, hc, _, hsz⟩ := Go.Fmt.rowAt_of w0
  obtain rfl := hr.len
  exact cfLaw a0 cap0 bs w hr hc hsz
end Go.Proofs.Ytnjinknpckkioaa
