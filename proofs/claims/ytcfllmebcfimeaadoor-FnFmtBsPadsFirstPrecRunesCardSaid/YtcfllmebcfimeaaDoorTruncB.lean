/- The formatter's truncate: the first 'prec' runes of a slice of bytes. -/
import Derived.Test.YtcfllmebcfimeaaDoorModel2
import Derived.Test.YtcfllmebcfimeaaDoorSLarge
import Derived.Test.YtcfllmebcfimeaaDoorDec
namespace Go.Proofs.YtcfllmebcfimeaaDoor.Fm
open Go.ChangeShapes Go.WideShapes Go.ChangeAt Go.RowKit Go.Fmt

theorem tail_dec (s : ByteArray) (k : Nat) (h : k < s.size) : Lib.decodeGo (s.extract k s.size) = Utf8.decode s k := by
  unfold Lib.decodeGo
  rw [if_neg (by rw [Lib.tail_size]; omega), Lib.tail_decode, Nat.add_zero]
theorem decAt (G k cap : Nat) (s : ByteArray) (w : World) (hT : Lib.Utf8Tabs 2 3 w) (hp : Lies w G s) (h : k < s.size) :
    Calls Tryd.prog 57 #[.slice (some ⟨G, k, none⟩) (s.size - k) cap] w fun e w' => e = .returned (.tuple #[.int .i32 (Utf8.decode s k).1, .int .i64 (Utf8.decode s k).2]) ∧ Below w.heap.size w w' := by
  have := decodeRune (s.extract k s.size) G k cap w hT (fun j hj => by rw [Lib.tail_size] at hj; rw [Lib.tail_get!]; exact hp (k + j) (by omega))
  rw [tail_dec s k h, Lib.tail_size] at this
  exact this

set_option maxRecDepth 100000 in
set_option maxHeartbeats 2000000 in
theorem truncB (F : Nat) (a : Addr) (f : Flags) (q : Option Addr) (c : Nat) (bs : List UInt8) (w : World) (hf : FmtAt w F a f) (hp : I64 f.prec) (h : Cpy w q c bs) (hl : bs.length ≤ 1048576) (hT : Lib.Utf8Tabs 2 3 w) (h2 : 2 < w.heap.size) (h3 : 3 < w.heap.size) :
    Calls Tryd.prog 49 #[.pointer (some ⟨F, 0, none⟩), .slice q bs.length c] w fun e w' => e = .returned (.slice q (cutB f.precP f.prec (sOf bs)).length c) ∧ Below w.heap.size w w' := by
  have q1 := hf.precP
  have q2 := hf.prec
  clear hf
  obtain ⟨pp, hpp⟩ : ∃ x, x = f.precP := ⟨_, rfl⟩
  obtain ⟨pr, hpr⟩ : ∃ x, x = f.prec := ⟨_, rfl⟩
  rw [← hpp] at q1 ⊢
  rw [← hpr] at q2 hp ⊢
  clear hpp hpr
  have hcap := h.cap
  cases pp
  · have e : Hid ((cutB false pr (sOf bs)).length = bs.length) := Lib.hid (by simp [cutB, sOf_list])
    clear h hT hp
    go_enter Tryd.func49, Tryd.ntmps49
    go_wp2
    go_ret
    exact ⟨by first | rfl | (rw [e.out]; rfl), Below.refl _ _⟩
  · obtain ⟨K, hK1, _, hK3, hK4⟩ := cutB_take true pr bs
    have e : Hid (Ending.returned (.slice q (cutB true pr (sOf bs)).length c) = .returned (.slice q K c)) := Lib.hid (by rw [hK3])
    have hK := hK4 rfl
    have HP := Lib.hid hp
    have HT := Lib.hid hT
    rcases h with ⟨rfl, rfl, rfl⟩ | ⟨G, rfl, hat, _⟩
    · obtain rfl : K = 0 := by simpa using hK1
      clear hK3 hK4 hK hp hT
      go_enter Tryd.func49, Tryd.ntmps49
      go_wp2
      go_loop [5, 6] (fun n i => n = .int .i64 pr ∧ i = .int .i64 0) (fun _ _ => 0)
      case atStart => exact ⟨rfl, rfl⟩
      case round =>
        obtain ⟨rfl, rfl⟩ := hrel
        go_wp2
        go_ret
        exact ⟨by first | rfl | (rw [e.out]; rfl), Below.refl _ _⟩
    · obtain ⟨s, hs⟩ : ∃ s, s = sOf bs := ⟨_, rfl⟩
      have hsz : bs.length = s.size := by rw [hs, sOf_size]
      have HLi : Hid (Lies w G s) := Lib.hid (by rw [hs]; exact lies_of hat)
      have HKK : Hid (K = offB s (precK pr) 0) := Lib.hid (by rw [hs]; exact hK)
      rw [hsz] at hl hK1 hcap ⊢
      clear hK3 hK4 hK hs hsz hat hp hT
      go_enter Tryd.func49, Tryd.ntmps49
      go_wp2
      go_loopw [5, 6] (fun n i wr => ∃ (k : Nat) (m : Int), k ≤ s.size ∧ i = .int .i64 k ∧ n = .int .i64 m ∧ Hid (offB s (precK m) k = offB s (precK pr) 0) ∧ Hid (I64 m) ∧ Below w.heap.size w wr) (fun _ i _ => s.size - (intOf i).toNat)
      case atStart => exact ⟨0, pr, Nat.zero_le _, rfl, rfl, Lib.hid rfl, HP, Below.refl _ _⟩
      case round =>
        obtain ⟨k, m, hk, rfl, rfl, HO, HM, hbel⟩ := hrel
        by_cases hlt : k < s.size
        · obtain ⟨M, hM⟩ : ∃ M, M = wrap64 (m - 1) := ⟨_, rfl⟩
          have HW := Lib.hid hM
          have hw : wrap64 (m - 1) = M := hM.symm
          clear hM
          by_cases h0 : M < 0
          · have hKk : K = k := by rw [HKK.out, ← HO.out, precK_neg HM.out (by rw [← HW.out]; exact h0)]; rfl
            have HE := Lib.hid hKk
            have hle : (k : Int) ≤ (c : Int) := by omega
            clear hKk hK1
            go_wp2
            go_ret
            exact ⟨by rw [e.out, HE.out]; rfl, hbel⟩
          · have h1 := precK_pos HM.out (by rw [← HW.out]; omega)
            have HS : Hid (offB s (precK M) (k + (Utf8.decode s k).2) = offB s (precK pr) 0) := Lib.hid (by rw [← HO.out, h1.1, offB_succ _ _ _ hlt, HW.out])
            have HI : Hid (I64 M) := Lib.hid (by rw [HW.out]; exact h1.2)
            have hcell := (hbel.cell (World.block_lt_of_cell? w _ (HLi.out k hlt))).trans (HLi.out k hlt)
            have hwd := width_pos s k hlt
            have hwl := width_le s k hlt
            have HA : Hid ((s.get! k).toNat < 128 → (Utf8.decode s k).2 = 1) := Lib.hid (fun hh => by rw [Lib.decode_at]; exact wid_ascii _ _ _ _ _ hh)
            have HD := Lib.hid (fun cap => decAt G k cap s wr (tabs_below hbel h2 h3 HT.out) (fun j hj => (hbel.cell (World.block_lt_of_cell? w _ (HLi.out j hj))).trans (HLi.out j hj)) hlt)
            obtain ⟨b, hb⟩ : ∃ b, b = (s.get! k).toNat := ⟨_, rfl⟩
            obtain ⟨wd, hwdd⟩ : ∃ wd, wd = (Utf8.decode s k).2 := ⟨_, rfl⟩
            obtain ⟨rn, hrn⟩ : ∃ rn, rn = (Utf8.decode s k).1 := ⟨_, rfl⟩
            rw [← hb] at hcell HA
            rw [← hwdd] at HS hwd hwl HA HD
            rw [← hrn] at HD
            clear hb hwdd hrn h1
            have hi0 : (0 : Int) ≤ (k : Int) := by omega
            have hi1 : (k : Int) < (s.size : Int) := by omega
            have hi2 : (k : Int) < (c : Int) := by omega
            by_cases hb : b < 128
            · have hbz : ¬ (128 : Int) ≤ (b : Int) := by omega
              have HA1 := Lib.hid (HA.out hb)
              clear HD HA
              go_wp2
              go_roundw
              case rel => exact ⟨k + wd, M, hwl, by rw [HA1.out]; go_num, by rw [HW.out], HS, HI, hbel⟩
              case measure => simp [intOf]; omega
            · have hbz : (128 : Int) ≤ (b : Int) := by omega
              have hck : ¬ c = k := by omega
              clear HA
              go_wp2_with (fail)
              refine (HD.out _).mono ?_
              rintro e w1 ⟨rfl, hb1⟩
              have hbel1 := hbel.trans (hb1.mono hbel.size)
              clear HD
              go_wp2
              go_roundw
              case rel => exact ⟨k + wd, M, hwl, by go_num, by first | rfl | rw [HW.out], HS, HI, hbel1⟩
              case measure => simp [intOf]; omega
        · obtain rfl : k = s.size := by omega
          have hKk : K = s.size := by rw [HKK.out, ← HO.out, offB_end _ _ _ hlt]
          have HE := Lib.hid hKk
          clear hKk hK1
          go_wp2
          go_ret
          exact ⟨by rw [e.out, HE.out]; rfl, hbel⟩
end Go.Proofs.YtcfllmebcfimeaaDoor.Fm
