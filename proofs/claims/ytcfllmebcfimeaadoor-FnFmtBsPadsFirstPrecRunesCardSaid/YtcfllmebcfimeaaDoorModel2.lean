/- The laws' own model of a padded text, whole; fmtS; the test whether one slice begins another. -/
import Derived.Test.YtcfllmebcfimeaaDoorModel
import Derived.Test.YtcfllmebcfimeaaDoorNew112
namespace Go.Proofs.YtcfllmebcfimeaaDoor.Fm
open Go.ChangeShapes Go.WideShapes Go.ChangeAt Go.RowKit Go.Fmt

theorem cutB_take (pp : Bool) (prec : Int) (bs : List UInt8) : ∃ k, k ≤ bs.length ∧ cutB pp prec (sOf bs) = bs.take k ∧ (cutB pp prec (sOf bs)).length = k ∧ (pp = true → k = offB (sOf bs) (precK prec) 0) := by
  cases pp
  · exact ⟨bs.length, Nat.le_refl _, by simp [cutB, sOf_list], by simp [cutB, sOf_list], fun h => by cases h⟩
  · have h := offB_le (sOf bs) (precK prec) 0 (Nat.zero_le _)
    rw [sOf_size] at h
    exact ⟨_, h, by simp [cutB, sOf_list], by simp [cutB, sOf_list]; omega, fun _ => rfl⟩
theorem cut_length_le (pp : Bool) (prec : Int) (bs : List UInt8) : (cutB pp prec (sOf bs)).length ≤ bs.length := by
  obtain ⟨k, h1, h2, h3, _⟩ := cutB_take pp prec bs
  omega
theorem Cpy.cut {w : World} {q : Option Addr} {c : Nat} {bs : List UInt8} (h : Cpy w q c bs) (pp : Bool) (prec : Int) : Cpy w q c (cutB pp prec (sOf bs)) := by
  obtain ⟨k, _, h2, _, _⟩ := cutB_take pp prec bs
  rw [h2]
  exact h.take k

theorem zzTrunc (q : Option Addr) (c : Nat) (bs : List UInt8) (pp : Bool) (prec : Int) (w : World) (h : Cpy w q c bs) (hl : bs.length ≤ 1048576) (hp1 : pp = true → -1048576 ≤ prec) (hp2 : prec ≤ 9223372036854775807) :
    Calls Tryd.prog 53 #[.slice q bs.length c, .int .i64 prec, .bool pp] w fun e w' => e = .returned (.slice q (cutB pp prec (sOf bs)).length c) ∧ w = w' := by
  cases pp
  · have e : Hid ((cutB false prec (sOf bs)).length = bs.length) := Lib.hid (by simp [cutB, sOf_list])
    clear hp1 hp2 h
    go_enter Tryd.func53, Tryd.ntmps53
    go_wp2
    go_ret
    exact ⟨by rw [e.out]; rfl, rfl⟩
  · have hp := hp1 rfl
    obtain ⟨k, hk, hk2, hk3, hk4⟩ := cutB_take true prec bs
    have hkk := hk4 rfl
    have hcap : bs.length ≤ c := by
      rcases h with ⟨_, rfl, _⟩ | ⟨_, _, _, h⟩
      · simp
      · exact h
    have e : Hid (Ending.returned (.slice q (cutB true prec (sOf bs)).length c) = .returned (.slice q k c)) := Lib.hid (by rw [hk3])
    have HC := Lib.hid h
    have hkc : (k : Int) ≤ (c : Int) := by omega
    have hk0 : (0 : Int) ≤ (k : Int) := by omega
    by_cases hneg : prec < 0
    · have hK : precK prec = (0 : Int).toNat := by unfold precK; rw [if_neg (by omega)]; omega
      have HO : Hid (offB (sOf bs) (0 : Int).toNat 0 = k) := Lib.hid (by rw [hkk, hK])
      have HR := Lib.hid (zzRuneOff q c bs 0 w h hl (by omega) (by omega))
      rw [HO.out] at HR
      clear hk2 hk3 hk4 hkk hp1 h hK HO
      go_enter Tryd.func53, Tryd.ntmps53
      go_wp2_with ((go_at_call 60; refine HR.out.mono ?_; rintro e w' ⟨rfl, rfl⟩))
      go_ret
      exact ⟨by rw [e.out]; rfl, rfl⟩
    · have hK : precK prec = prec.toNat := by unfold precK; rw [if_neg (by omega)]
      have HO : Hid (offB (sOf bs) prec.toNat 0 = k) := Lib.hid (by rw [hkk, hK])
      have HR := Lib.hid (zzRuneOff q c bs prec w h hl (by omega) hp2)
      rw [HO.out] at HR
      clear hk2 hk3 hk4 hkk hp1 h hK HO hp2
      go_enter Tryd.func53, Tryd.ntmps53
      go_wp2_with ((go_at_call 60; refine HR.out.mono ?_; rintro e w' ⟨rfl, rfl⟩))
      go_ret
      exact ⟨by rw [e.out]; rfl, rfl⟩

theorem around_pad (f : Flags) (T : List UInt8) (n : Nat) (h : n = if f.widP = true ∧ (rcount T : Int) < f.wid then (f.wid - rcount T).toNat else 0) : around T n (padByte f.zero) (!f.minus) = padded f T := by
  unfold around padded
  by_cases hw : f.widP = false ∨ f.wid = 0
  · have e : n = 0 := by rw [h, if_neg]; rintro ⟨h1, h2⟩; rcases hw with hw | hw; (rw [hw] at h1; cases h1); omega
    rw [if_pos hw, e]
    cases f.minus <;> simp
  · have h1 : f.widP = true := by cases hh : f.widP <;> simp_all
    have e : n = (f.wid - rcount T).toNat := by
      rw [h]
      by_cases h2 : (rcount T : Int) < f.wid
      · rw [if_pos ⟨h1, h2⟩]
      · rw [if_neg (fun x => h2 x.2)]; omega
    rw [if_neg hw, e]
    cases f.minus <;> simp

theorem zzAroundI' (q : Option Addr) (cs : List UInt8) (c : Nat) (n : Int) (b : UInt8) (left : Bool) (w : World) (hr : RowAt w q cs.length cs) (hc : q = none → c = 0) (h0 : 0 ≤ n) (hn : n ≤ 65536) (hl : cs.length ≤ 1073741824) :
    Calls Tryd.prog 43 #[.slice q cs.length c, .int .i64 n, .int .u8 b.toNat, .bool left] w (OwnRow w (around cs n.toNat b left)) := by
  obtain ⟨m, rfl⟩ := Int.eq_ofNat_of_zero_le h0
  exact zzAround q cs c m b left w hr hc (by omega) hl

set_option maxRecDepth 100000 in
set_option maxHeartbeats 1000000 in
theorem zzText (q : Option Addr) (c : Nat) (bs : List UInt8) (f : Flags) (w : World) (h : Cpy w q c bs) (hl : bs.length ≤ 1048576) (hp1 : f.precP = true → -1048576 ≤ f.prec) (hp2 : f.prec ≤ 9223372036854775807) (hw1 : -65536 ≤ f.wid) (hw2 : f.wid ≤ 65536) :
    Calls Tryd.prog 35 #[.slice q bs.length c, .int .i64 f.wid, .bool f.widP, .int .i64 f.prec, .bool f.precP, .bool f.minus, .bool f.zero] w (OwnRow w (padded f (cutB f.precP f.prec (sOf bs)))) := by
  have HT := Lib.hid (zzTrunc q c bs f.precP f.prec w h hl hp1 hp2)
  have hTl := cut_length_le f.precP f.prec bs
  have HCp := Lib.hid (h.cut f.precP f.prec)
  obtain ⟨T, hT⟩ : ∃ T, T = cutB f.precP f.prec (sOf bs) := ⟨_, rfl⟩
  rw [← hT] at HT hTl HCp ⊢
  clear hT h
  have HN := Lib.hid (zzCount q c T w HCp.out (by omega))
  have hrc := rcount_le T
  have HP := Lib.hid (around_pad f T)
  obtain ⟨n, hn⟩ : ∃ n : Int, n = (rcount T : Nat) := ⟨_, rfl⟩
  rw [← hn] at HN HP
  have hn0 : 0 ≤ n := by omega
  have hn1 : n ≤ 1048576 := by omega
  clear hn hrc
  obtain ⟨wp, pp, mi, pl, sh, sp, ze, wid, prec⟩ := f
  simp only at HT HP hw1 hw2 hp2 ⊢
  cases wp
  · have HAr := Lib.hid (zzAroundI' q T c 0 (padByte ze) (!mi) w HCp.out.row HCp.out.nil (by omega) (by omega) (by omega))
    rw [HP.out _ (by simp)] at HAr
    clear HP hp2 hp1
    cases mi
    all_goals
      go_enter Tryd.func35, Tryd.ntmps35
      go_wp2_with (first
        | (go_at_call 53; refine HT.out.mono ?_; rintro e w' ⟨rfl, rfl⟩)
        | (go_at_call 54; refine HN.out.mono ?_; rintro e w' ⟨rfl, rfl⟩)
        | (go_at_call 42; refine (zzPadByte _ _).mono ?_; rintro e w' ⟨rfl, rfl⟩))
      refine HAr.out.mono ?_
      rintro e w1 ⟨p, cap, rfl, h1, h2⟩
      go_wp2
      go_ret
      exact ⟨p, cap, rfl, h1, h2⟩
  · by_cases hlt : n < wid
    · have HAr := Lib.hid (zzAroundI' q T c (wid - n) (padByte ze) (!mi) w HCp.out.row HCp.out.nil (by omega) (by omega) (by omega))
      rw [HP.out _ (by rw [if_pos ⟨rfl, hlt⟩])] at HAr
      clear HP hp2 hp1
      cases mi
      all_goals
        go_enter Tryd.func35, Tryd.ntmps35
        go_wp2_with (first
          | (go_at_call 53; refine HT.out.mono ?_; rintro e w' ⟨rfl, rfl⟩)
          | (go_at_call 54; refine HN.out.mono ?_; rintro e w' ⟨rfl, rfl⟩)
          | (go_at_call 42; refine (zzPadByte _ _).mono ?_; rintro e w' ⟨rfl, rfl⟩))
        refine HAr.out.mono ?_
        rintro e w1 ⟨p, cap, rfl, h1, h2⟩
        go_wp2
        go_ret
        exact ⟨p, cap, rfl, h1, h2⟩
    · have HAr := Lib.hid (zzAroundI' q T c 0 (padByte ze) (!mi) w HCp.out.row HCp.out.nil (by omega) (by omega) (by omega))
      rw [HP.out _ (by rw [if_neg (fun x => hlt x.2)]; rfl)] at HAr
      clear HP hp2 hp1
      cases mi
      all_goals
        go_enter Tryd.func35, Tryd.ntmps35
        go_wp2_with (first
          | (go_at_call 53; refine HT.out.mono ?_; rintro e w' ⟨rfl, rfl⟩)
          | (go_at_call 54; refine HN.out.mono ?_; rintro e w' ⟨rfl, rfl⟩)
          | (go_at_call 42; refine (zzPadByte _ _).mono ?_; rintro e w' ⟨rfl, rfl⟩))
        refine HAr.out.mono ?_
        rintro e w1 ⟨p, cap, rfl, h1, h2⟩
        go_wp2
        go_ret
        exact ⟨p, cap, rfl, h1, h2⟩

/-- fmtS. -/
theorem fmtS (N base F B : Nat) (f : Flags) (bs : List UInt8) (s : ByteArray) (w : World) (h : Live w N base F B f bs) (hg1 : w.cell? ⟨0, 0, none⟩ = some (.int .i64 2147483647))
    (hp : I64 f.prec) (hs : s.size ≤ 1048576) (hl : bs.length ≤ 1048576) (hwl : -1073741824 ≤ f.wid) (hwl2 : f.wid ≤ 1073741823) :
    Calls Tryd.prog 52 #[.pointer (some ⟨F, 0, none⟩), .string s] w fun e w' => e = .returned (.tuple #[]) ∧ Live w' N base F B f (bs ++ padded f (cutB f.precP f.prec s)) ∧ Below N w w' := by
  have HT := Lib.hid (truncS F ⟨B, 0, none⟩ f s w h.fmt hp)
  have HL := Lib.hid h
  have HG := Lib.hid hg1
  have hN : N ≤ w.heap.size := Nat.le_trans h.lf (Nat.le_trans (Nat.le_of_lt h.hf) h.buf.base_le)
  clear h hg1
  go_enter Tryd.func52, Tryd.ntmps52
  go_wp2_with (fail)
  refine HT.out.mono ?_
  rintro e w1 ⟨t, rfl, ht, hb1⟩
  have htl : t.data.toList.length ≤ s.size := by
    rw [ht]
    have := cut_length_le f.precP f.prec s.data.toList
    rw [size_list] at this
    exact this
  have HTT := Lib.hid ht
  clear ht
  have hm1 := maxl_below (hb1.mono hN) HL.out.maxl HG.out
  have HP := Lib.hid (padSLive N base F B f bs t w1 (HL.out.grow hb1) hm1 (by omega) hwl hwl2)
  clear hm1
  go_wp2_with (fail)
  refine HP.out.mono ?_
  rintro e w2 ⟨rfl, h2, hb2⟩
  rw [HTT.out] at h2
  have HH := Lib.hid h2
  clear h2
  go_wp2
  go_end0
  exact ⟨rfl, HH.out, (hb1.mono hN).trans hb2⟩
theorem zzFS (N base F B : Nat) (f : Flags) (bs : List UInt8) (s : ByteArray) (w : World) (h : Live w N base F B f bs) (hg1 : w.cell? ⟨0, 0, none⟩ = some (.int .i64 2147483647))
    (hp : I64 f.prec) (hs : s.size ≤ 1048576) (hl : bs.length ≤ 1048576) (hwl : -1073741824 ≤ f.wid) (hwl2 : f.wid ≤ 1073741823) :
    Calls Tryd.prog 31 #[.pointer (some ⟨F, 0, none⟩), .string s] w fun e w' => e = .returned (.tuple #[]) ∧ Live w' N base F B f (bs ++ padded f (cutB f.precP f.prec s)) ∧ Below N w w' := by
  have HC := Lib.hid (fmtS N base F B f bs s w h hg1 hp hs hl hwl hwl2)
  clear h hg1
  go_enter Tryd.func31, Tryd.ntmps31
  go_wp2_with (fail)
  refine HC.out.mono ?_
  rintro e w2 ⟨rfl, h2, hb2⟩
  have HH := Lib.hid h2
  clear h2
  go_wp2
  go_end0
  exact ⟨rfl, HH.out, hb2⟩
end Go.Proofs.YtcfllmebcfimeaaDoor.Fm
