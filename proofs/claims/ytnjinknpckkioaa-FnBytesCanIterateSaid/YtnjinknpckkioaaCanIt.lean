/- The law FnBytesCanIterate: its walk. -/
import Derived.Test.YtnjinknpckkioaaObj2
import Derived.Test.YtnjinknpckkioaaCut
namespace Go.Proofs.Ytnjinknpckkioaa.Fm
open Go.ChangeShapes Go.WideShapes Go.ChangeAt Go.RowKit Go.Fmt

set_option maxHeartbeats 1000000 in
theorem guardCI (p : Option Addr) (l c : Nat) (w : World) (hsz : l ≤ 140737488351232) : Calls Try.prog 12 #[.slice p l c] w fun e w' => e = .returned (.bool (decide (l ≤ 1048576))) ∧ w = w' := by
  by_cases h : l ≤ 1048576
  all_goals
    go_enter Try.func12, Try.ntmps12
    go_wp2
    go_ret
    exact ⟨by simp [h], rfl⟩

theorem below_drewN' {B n : Nat} {w w' : World} (h : Below B w w') : Below B w (w'.drewN n) := ⟨h.os, h.tape, h.output, h.size, h.block⟩
theorem ByAt.drewN {w : World} {B n : Nat} {p : Option Addr} {cap : Nat} {bs : List UInt8} (h : ByAt w B p cap bs) : ByAt (w.drewN n) B p cap bs := ⟨h.cell, h.row, h.nil⟩

set_option maxRecDepth 100000 in
set_option maxHeartbeats 4000000 in
theorem ciMain (p : Option Addr) (cap : Nat) (bs : List UInt8) (w : World) (hr : RowAt w p bs.length bs) (hc : p = none → cap = 0) (hs : bs.length ≤ 1048576) :
    Calls Try.prog 4 #[.slice p bs.length cap] w fun e w' => e = .returned (.bool true) ∧ Below w.heap.size w w' := by
  have HG := Lib.hid (decide_eq_true hs)
  have hI := Lib.hid info5
  have HR := Lib.hid hr
  have HCC := Lib.hid hc
  have hne : (binOp .neq 22 (.slice p bs.length cap) (.slice none 0 0)).run Try.prog w = .ok (.bool (!p.isNone)) w := by cases p <;> rfl
  clear hr hc
  go_enter Try.func4, Try.ntmps4
  go_wp2_with (fail)
  refine (guardCI _ _ _ _ (by omega)).mono ?_
  rintro e w' ⟨rfl, rfl⟩
  rw [HG.out]
  go_upto_if 14 with (fail)
  refine wp_cut (fun a' w' => ∃ g : Nat → Value, (∃ (q : Option Addr) (c : Nat), g 0 = .slice q bs.length c ∧ g 2 = .bool false ∧ RowAt w' q bs.length bs ∧ (q = none → c = 0) ∧ Below w.heap.size w w') ∧ a' = ⟨#[g 0, undef, g 2, g 3, g 4, g 5, g 6, g 7, g 8, g 9, g 10, g 11, g 12, g 13, g 14, g 15, g 16, g 17, g 18, g 19, g 20, g 21, g 22, g 23, g 24, g 25, g 26, g 27, g 28, g 29, g 30, g 31, g 32, g 33, g 34, g 35, g 36, g 37, g 38, g 39, g 40, g 41, g 42, g 43, g 44, g 45, g 46, g 47, g 48, g 49, g 50, g 51, g 52, g 53, g 54, g 55, g 56, g 57, g 58, g 59, g 60, g 61, g 62, g 63, g 64, g 65, g 66, g 67, g 68, g 69, g 70, g 71], []⟩) ?rest ?first
  case first =>
    intro _ _ _ _
    rcases HR.out with ⟨rfl, h1, rfl⟩ | ⟨x, rfl, h1, hx⟩
    · obtain rfl := HCC.out rfl
      clear h1
      go_wp2
      refine Met.intro ?_
      go_step
      refine meetG (by kernel_rfl) ?_
      exact ⟨none, 0, rfl, rfl, HR.out, fun _ => rfl, Below.refl _ _⟩
    · have HX := Lib.hid hx
      clear hx h1
      go_wp2_with ((at_make; refine make_bytes rfl _ 22 rfl w.heap.size 5 Try.underlying22 hI.out _ bs.length rfl rfl (by omega) (Nat.le_refl _) ?_; intro w1 hown1 hb1 hsz1 hsame1))
      have hown0 := own_take hown1 (Nat.zero_le _)
      clear hsame1
      go_loopw [4] (fun i wr => ∃ k : Nat, k ≤ bs.length ∧ i = .int .i64 k ∧ wr.ownsRow w.heap.size 5 1 (.slice (some ⟨w.heap.size, 0, none⟩) k bs.length) k (bcells (bs.take k)) ∧ Below w.heap.size w wr) (fun i _ => bs.length - (intOf i).toNat)
      case atStart => exact ⟨0, Nat.zero_le _, rfl, by simpa [bcells] using hown0, hb1⟩
      case round =>
        obtain ⟨k, hk, rfl, hown, hb⟩ := hrel
        have hbs := hb.size
        by_cases hlt : k < bs.length
        · have hc0 := HX.out k hlt
          have hcx := (hb.cell (World.block_lt_of_cell? w _ hc0)).trans hc0
          obtain ⟨⟨v, hcv⟩, hfv⟩ := own_cell hown (j := k) hlt
          clear hc0
          go_wp2
          go_roundw
          case rel =>
            refine ⟨k + 1, hlt, by go_num, ?_, hb.setCell (Nat.le_refl _) _⟩
            have h8 := own_set (.int .u8 (bs[k].toNat : Int)) hown hlt
            have e1 : bcells (bs.take (k + 1)) = bcells (bs.take k) ++ [.int .u8 (bs[k].toNat : Int)] := by
              rw [List.take_succ_eq_append_getElem hlt, bcells_append]; rfl
            rw [e1]
            exact h8
          case measure => simp [intOf]; omega
        · obtain rfl : k = bs.length := by omega
          have hown' : wr.ownsRow w.heap.size 5 1 (.slice (some ⟨w.heap.size, 0, none⟩) bs.length bs.length) bs.length (bcells bs) := by simpa using hown
          have HO := Lib.hid (RowAt.of_own hown')
          clear hown hown'
          go_wp2
          refine Met.intro ?_
          go_step
          refine meetG (by kernel_rfl) ?_
          exact ⟨some ⟨w.heap.size, 0, none⟩, bs.length, rfl, rfl, HO.out, (fun h => by cases h), hb⟩
  case rest =>
    rintro _ w1 ⟨g, ⟨q, c, h0, h2, hrow, hnil, hb1⟩, rfl⟩
    rw [h0, h2]
    have hBy := boxed hrow hnil
    have HBy := Lib.hid hBy
    have hm1 := m_string
    have hm2 := m_equals
    have hm3 := m_can
    have hm4 := m_iter
    clear h0 h2 hBy hrow hnil hne
    have hb2 : Below w.heap.size w (w1.alloc (.cells #[.slice q bs.length c] 29)) := hb1.alloc hb1.size _
    obtain ⟨w2, hw2⟩ : ∃ w2, w2 = w1.alloc (.cells #[.slice q bs.length c] 29) := ⟨_, rfl⟩
    have HW2 := Lib.hid hw2
    rw [← hw2] at hb2 HBy
    have hIt := Lib.hid (bIter _ _ _ _ _ HBy.out)
    clear hw2
    go_wp2_with ((go_at_call 13; refine (bCan _ _).mono ?_; rintro e w' ⟨rfl, rfl⟩))
    rw [← HW2.out]
    refine hIt.out.mono ?_
    rintro e w3 ⟨v3, rfl, hb3⟩
    have HBy3 := Lib.hid (HBy.out.old hb3)
    have hCp := Lib.hid (bCopy _ _ _ _ _ HBy3.out (by omega))
    clear hIt
    go_wp2_with ((go_at_call 13; refine (bCan _ _).mono ?_; rintro e w' ⟨rfl, rfl⟩))
    refine hCp.out.mono ?_
    rintro e w4 ⟨B, p4, cap4, rfl, h1, h2, h3, h4, hb4⟩
    have HC4 : ByAt w4 B p4 cap4 bs := ⟨h3, RowAt.of_own h4, own_nil h4⟩
    have HBy4 := Lib.hid (HBy3.out.old hb4)
    have hIt4 := Lib.hid (bIter _ _ _ _ _ HC4)
    have HC4' := Lib.hid HC4
    clear h1 h2 h3 h4 hCp HC4
    go_wp2_with ((go_at_call 13; refine (bCan _ _).mono ?_; rintro e w' ⟨rfl, rfl⟩))
    refine hIt4.out.mono ?_
    rintro e w5 ⟨v5, rfl, hb5⟩
    have HBy5 := Lib.hid (HBy4.out.old hb5)
    have HC5 := Lib.hid (HC4'.out.old hb5)
    clear hIt4
    go_wp2_with (fail)
    refine (bEquals _ _ _ _ _ _ _ _ _ HC5.out HBy5.out).mono ?_
    rintro e w6 ⟨rfl, n6, rfl⟩
    rw [decide_eq_true (rfl : bs = bs)]
    go_wp2_with (fail)
    refine (bEquals _ _ _ _ _ _ _ _ _ HBy5.out.drewN HC5.out.drewN).mono ?_
    rintro e w7 ⟨rfl, n7, rfl⟩
    rw [decide_eq_true (rfl : bs = bs)]
    go_wp2_with (fail)
    refine (bString _ _ _ _ _ HC5.out.drewN).mono ?_
    rintro e w8 ⟨rfl, rfl⟩
    go_wp2_with (fail)
    refine (bString _ _ _ _ _ HBy5.out.drewN).mono ?_
    rintro e w8 ⟨rfl, rfl⟩
    go_wp2
    go_ret
    exact ⟨by simp, below_drewN' (hb2.trans ((hb3.trans ((hb4.trans (hb5.mono hb4.size)).mono hb3.size)).mono hb2.size))⟩

theorem ciLaw (p : Option Addr) (cap : Nat) (bs : List UInt8) (w : World) (hr : RowAt w p bs.length bs) (hc : p = none → cap = 0) (hsz : bs.length ≤ 140737488351232) :
    Calls Try.prog 4 #[.slice p bs.length cap] w fun e w' => e = .returned (.bool true) ∧ Below w.heap.size w w' := by
  by_cases hs : bs.length ≤ 1048576
  · exact ciMain p cap bs w hr hc hs
  · have HG := Lib.hid (decide_eq_false hs)
    clear hr hc
    go_enter Try.func4, Try.ntmps4
    go_wp2_with (fail)
    refine (guardCI _ _ _ _ hsz).mono ?_
    rintro e w' ⟨rfl, rfl⟩
    rw [HG.out]
    go_wp2
    go_ret
    exact ⟨rfl, Below.refl _ _⟩
end Go.Proofs.Ytnjinknpckkioaa.Fm
namespace Go.Proofs.Ytnjinknpckkioaa
open Go.Proofs.Ytnjinknpckkioaa.Fm
theorem fnBytesCanIterate.walk (a0 : Option Addr) (len0 cap0 : Nat) (z0 : List Int) (w : World) (w0 : LawFrame.IsRow .u8 1 w a0 len0 cap0 z0) :
    Calls Try.prog 4 #[.slice a0 len0 cap0] w fun e w' => e = .returned (.bool true) ∧ RowKit.Below w.heap.size w w' := by
  obtain ⟨bs, hr, hc, _, hsz⟩ := Go.Fmt.rowAt_of w0
  obtain rfl := hr.len
  exact ciLaw a0 cap0 bs w hr hc hsz
end Go.Proofs.Ytnjinknpckkioaa
