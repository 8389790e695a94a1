/- The law FnStringIterateYieldsRunesInOrder: its walk. -/
import Derived.Test.YtehfbmkaojlbeaaIter
namespace Go.Proofs.Ytehfbmkaojlbeaa.Fm
open Go.ChangeShapes Go.WideShapes Go.ChangeAt Go.RowKit Go.Fmt Go.Blk

set_option maxHeartbeats 1000000 in
theorem guardIt (s : ByteArray) (w : World) (hsz : s.size ≤ 140737488351232) : Calls Try.prog 4 #[.string s] w fun e w' => e = .returned (.bool (decide (s.size ≤ 1048576))) ∧ w = w' := by
  by_cases h : s.size ≤ 1048576
  all_goals
    go_enter Try.func4, Try.ntmps4
    go_wp2
    go_ret
    exact ⟨by simp [h], rfl⟩
theorem runesL_step (s : ByteArray) (f p : Nat) (hp : p < s.size) (hf : s.size ≤ p + f) : ∃ f', runesL s f p = (Utf8.decode s p).1 :: runesL s f' (p + (Utf8.decode s p).2) ∧ s.size ≤ p + (Utf8.decode s p).2 + f' := by
  obtain ⟨f', rfl⟩ : ∃ f', f = f' + 1 := ⟨f - 1, by omega⟩
  have := width_pos s p hp
  exact ⟨f', by rw [runesL, if_pos hp], by omega⟩
theorem runesL_end (s : ByteArray) (f p : Nat) (hp : ¬ p < s.size) : runesL s f p = [] := by
  cases f with
  | zero => rfl
  | succ f => rw [runesL, if_neg hp]
theorem drop_cons {α : Type} {l t : List α} {k : Nat} {x : α} (h : l.drop k = x :: t) : ∃ hk : k < l.length, l[k] = x ∧ l.drop (k + 1) = t := by
  have hk : k < l.length := by
    rcases Nat.lt_or_ge k l.length with h1 | h1
    · exact h1
    · rw [List.drop_of_length_le h1] at h; cases h
  rw [List.drop_eq_getElem_cons hk] at h
  injection h with h1 h2
  exact ⟨hk, h1, h2⟩
theorem below_drewN' {B n : Nat} {w w' : World} (h : Below B w w') : Below B w (w'.drewN n) := ⟨h.os, h.tape, h.output, h.size, h.block⟩

set_option maxRecDepth 100000 in
set_option maxHeartbeats 8000000 in
theorem itMain (s : ByteArray) (w : World) (hs : s.size ≤ 1048576) :
    Calls Try.prog 3 #[.string s] w fun e w' => e = .returned (.bool true) ∧ Below w.heap.size w w' := by
  have HG := Lib.hid (decide_eq_true hs)
  have hm1 := m_next
  have hm2 := m_key
  have hm3 := m_val
  have hm4 := m_itn
  have hm5 := m_ieq
  have hm6 := m_ctn
  have hm7 := m_ceq
  have HIT := Lib.hid (iterate w.heap.size w.heap.size s (w.alloc (.cells #[.string s, .slice none 0 0] 28)) (blk_alloc w [.string s, .slice none 0 0] 28) hs (Nat.le_refl _))
  have HB0 : Hid (Below w.heap.size w (w.alloc (.cells #[.string s, .slice none 0 0] 28))) := Lib.hid ((Below.refl _ _).alloc (Nat.le_refl _) _)
  go_enter Try.func3, Try.ntmps3
  go_wp2_with (fail)
  refine (guardIt _ _ (by omega)).mono ?_
  rintro e w' ⟨rfl, rfl⟩
  rw [HG.out]
  go_wp2_with (fail)
  refine HIT.out.mono ?_
  rintro e w2 ⟨I, G, cap, rfl, hit, hNI, hIG, hb2⟩
  obtain ⟨rs, hrs⟩ : ∃ rs, rs = runesL s s.size 0 := ⟨_, rfl⟩
  have hrl : rs.length ≤ 1048576 := by have := runesL_length s s.size 0; rw [hrs]; omega
  rw [← hrs] at hit
  have HI0 := Lib.hid hit
  have HRS := Lib.hid hrs
  have HB2 : Hid (Below w.heap.size w w2) := Lib.hid (HB0.out.trans hb2)
  clear hit hb2 hrs HIT HB0
  go_wp2
  go_loopw [5, 6] (fun pv kv wr => ∃ p k f : Nat, p ≤ s.size ∧ pv = .int .i64 p ∧ kv = .int .i64 k ∧ k ≤ rs.length ∧ Hid (It wr I G cap rs k ∧ rs.drop k = runesL s f p ∧ s.size ≤ p + f ∧ Below w.heap.size w wr)) (fun pv _ _ => s.size - (intOf pv).toNat)
  case atStart => exact ⟨0, 0, s.size, Nat.zero_le _, rfl, rfl, Nat.zero_le _, Lib.hid ⟨HI0.out, by rw [List.drop_zero, HRS.out], by omega, HB2.out⟩⟩
  case round =>
    obtain ⟨p, k, f, hp, rfl, rfl, hk, HS⟩ := hrel
    obtain ⟨wo, hwo⟩ : ∃ wo : World, wo = wr := ⟨_, rfl⟩
    subst hwo
    by_cases hlt : p < s.size
    · obtain ⟨f', hst, hf'⟩ := runesL_step s f p hlt HS.out.2.2.1
      have hdr := HS.out.2.1
      rw [hst] at hdr
      have hwp := width_pos s p hlt
      have hwl := width_le s p hlt
      have HDZ := Lib.hid (zzDecode s p wo hlt hs)
      unfold DecOut at HDZ
      generalize (Utf8.decode s p).1 = r at *
      generalize (Utf8.decode s p).2 = wd at *
      obtain ⟨hkl, hrk, hdr2⟩ := drop_cons hdr
      have HDR := Lib.hid hdr2
      have HRK := Lib.hid hrk
      have HF := Lib.hid hf'
      have HNX : Hid (Calls Try.prog 49 #[.pointer (some ⟨I, 0, none⟩)] wo fun e w' => e = .returned (.bool true) ∧ It w' I G cap rs (k + 1) ∧ Below w.heap.size wo w') := Lib.hid (by
        have h := next w.heap.size I G cap k rs wo HS.out.1 hNI hIG hk hrl
        rw [decide_eq_true (by omega)] at h
        exact h)
      clear hst hf' hdr hrk hdr2
      go_wp2_with (fail)
      refine HDZ.out.mono ?_
      rintro e w' ⟨rfl, rfl⟩
      go_wp2_with (fail)
      refine HNX.out.mono ?_
      rintro e w3 ⟨rfl, hit3, hb3⟩
      have HK := Lib.hid (key I G cap k rs w3 hit3 (by omega))
      have HI3 := Lib.hid hit3
      have HB3 : Hid (Below w.heap.size w w3) := Lib.hid (HS.out.2.2.2.trans hb3)
      clear hit3 hb3 HNX HDZ
      go_wp2_with (fail)
      refine HK.out.mono ?_
      rintro e w4 ⟨X, rfl, hX, hcX, hb4⟩
      have HV := Lib.hid (value I G cap k rs w4 (HI3.out.old hb4) hkl hrl)
      have HCX := Lib.hid hcX
      have HB4 := Lib.hid hb4
      clear hcX hb4 HK
      go_wp2_with (fail)
      refine HV.out.mono ?_
      rintro e w5 ⟨Y, rfl, hY, hcY, hb5⟩
      rw [HRK.out] at hcY
      have hcX5 := (hb5.cell (World.block_lt_of_cell? w4 _ HCX.out)).trans HCX.out
      have hb6 : Below w5.heap.size w5 (w5.alloc (.cells #[.int .i64 k] 42)) := (Below.refl _ _).alloc (Nat.le_refl _) _
      have HE1 := Lib.hid (iEq X w5.heap.size k (w5.alloc (.cells #[.int .i64 k] 42)) ((hb6.cell (World.block_lt_of_cell? w5 _ hcX5)).trans hcX5) ((blk_alloc w5 [.int .i64 k] 42).cell? 0))
      have HCY6 := Lib.hid ((hb6.cell (World.block_lt_of_cell? w5 _ hcY)).trans hcY)
      have HB36 : Hid (Below w3.heap.size w3 (w5.alloc (.cells #[.int .i64 k] 42))) := Lib.hid (HB4.out.trans ((hb5.trans (hb6.mono hb5.size)).mono HB4.out.size))
      clear hcY hcX5 hb5 hb6 HV
      go_wp2_with (fail)
      refine (iName _ _).mono ?_
      rintro e w' ⟨rfl, rfl⟩
      go_wp2_with (fail)
      refine HE1.out.mono ?_
      rintro e w' ⟨rfl, m6, rfl⟩
      obtain ⟨w6, hw6⟩ : ∃ w6, w6 = (w5.alloc (.cells #[.int .i64 k] 42)).drewN m6 := ⟨_, rfl⟩
      have hcY6 : w6.cell? ⟨Y, 0, none⟩ = some (.int .i32 r) := by rw [hw6]; exact HCY6.out
      have hb36 : Below w3.heap.size w3 w6 := by rw [hw6]; exact below_drewN' HB36.out
      have hb7 : Below w6.heap.size w6 (w6.alloc (.cells #[.int .i32 r] 45)) := (Below.refl _ _).alloc (Nat.le_refl _) _
      have HE2 := Lib.hid (cEq Y w6.heap.size r (w6.alloc (.cells #[.int .i32 r] 45)) ((hb7.cell (World.block_lt_of_cell? w6 _ hcY6)).trans hcY6) ((blk_alloc w6 [.int .i32 r] 45).cell? 0))
      have HB37 : Hid (Below w3.heap.size w3 (w6.alloc (.cells #[.int .i32 r] 45))) := Lib.hid (hb36.trans (hb7.mono hb36.size))
      rw [← hw6]
      clear hw6 hcY6 hb36 hb7 HE1 HCY6 HB36
      go_wp2_with (fail)
      refine (cName _ _).mono ?_
      rintro e w' ⟨rfl, rfl⟩
      go_wp2_with (fail)
      refine HE2.out.mono ?_
      rintro e w' ⟨rfl, m7, rfl⟩
      obtain ⟨w7, hw7⟩ : ∃ w7, w7 = (w6.alloc (.cells #[.int .i32 r] 45)).drewN m7 := ⟨_, rfl⟩
      have HB7 : Hid (Below w3.heap.size w3 w7) := Lib.hid (by rw [hw7]; exact below_drewN' HB37.out)
      rw [← hw7]
      clear hw7 HE2 HB37
      go_wp2
      go_roundw
      case rel => exact ⟨p + wd, k + 1, f', hwl, by go_num, by go_num, hkl, Lib.hid ⟨HI3.out.old HB7.out, HDR.out, HF.out, HB3.out.trans (HB7.out.mono HB3.out.size)⟩⟩
      case measure => simp [intOf]; omega
    · obtain rfl : p = s.size := by omega
      have hke : k = rs.length := by
        have h := HS.out.2.1
        rw [runesL_end s f s.size hlt] at h
        have := List.drop_eq_nil_iff.1 h
        omega
      have HNX : Hid (Calls Try.prog 49 #[.pointer (some ⟨I, 0, none⟩)] wo fun e w' => e = .returned (.bool false) ∧ It w' I G cap rs (k + 1) ∧ Below w.heap.size wo w') := Lib.hid (by
        have h := next w.heap.size I G cap k rs wo HS.out.1 hNI hIG hk hrl
        rw [decide_eq_false (by omega)] at h
        exact h)
      clear hke
      go_wp2_with (fail)
      refine HNX.out.mono ?_
      rintro e w3 ⟨rfl, _, hb3⟩
      go_wp2
      go_ret
      exact ⟨rfl, HS.out.2.2.2.trans hb3⟩

theorem itLaw (s : ByteArray) (w : World) (hsz : s.size ≤ 140737488351232) :
    Calls Try.prog 3 #[.string s] w fun e w' => e = .returned (.bool true) ∧ Below w.heap.size w w' := by
  by_cases hs : s.size ≤ 1048576
  · exact itMain s w hs
  · have HG := Lib.hid (decide_eq_false hs)
    go_enter Try.func3, Try.ntmps3
    go_wp2_with (fail)
    refine (guardIt _ _ hsz).mono ?_
    rintro e w' ⟨rfl, rfl⟩
    rw [HG.out]
    go_wp2
    go_ret
    exact ⟨rfl, Below.refl _ _⟩
end Go.Proofs.Ytehfbmkaojlbeaa.Fm
namespace Go.Proofs.Ytehfbmkaojlbeaa
theorem fnStringIterateYieldsRunesInOrder.walk (a0 : ByteArray) (w : World) (w0 : a0.size ≤ 140737488351232) :
    Calls Try.prog 3 #[.string a0] w fun e w' => e = .returned (.bool true) ∧ RowKit.Below w.heap.size w w' := Fm.itLaw a0 w w0
end Go.Proofs.Ytehfbmkaojlbeaa
