/- The laws' own model of a padded text: its first 'prec' runes, padded to 'wid' runes. -/
import Derived.Test.YtcfllmebcfimeaaDoorWid
import Derived.Test.YtcfllmebcfimeaaDoorAround
import Derived.Test.YtcfllmebcfimeaaDoorEq
import Derived.Lib.RuneCountTail
namespace Go.Fmt
open Go.Lib
theorem decodeN_le (m b0 b1 b2 b3 : Nat) (h : 1 ≤ m) : (decodeN m b0 b1 b2 b3).2 ≤ m := by
  unfold decodeN
  split
  · exact h
  split
  · split <;> (simp only; omega)
  split
  · split <;> (simp only; omega)
  split
  · split <;> (simp only; omega)
  exact h
theorem width_le (s : ByteArray) (pos : Nat) (h : pos < s.size) : pos + (Utf8.decode s pos).2 ≤ s.size := by
  rw [decode_at]
  have := decodeN_le (s.size - pos) (s.get! pos).toNat (s.get! (pos + 1)).toNat (s.get! (pos + 2)).toNat (s.get! (pos + 3)).toNat (by omega)
  omega
theorem offB_le (s : ByteArray) : ∀ k pos, pos ≤ s.size → offB s k pos ≤ s.size
  | 0, _, h => h
  | k + 1, pos, h => by
    rw [offB]
    split
    · rename_i hp
      exact offB_le s k _ (width_le s pos hp)
    · exact h
theorem count_step (s : ByteArray) (pos : Nat) (h : pos < s.size) : runeCountFrom s s.size pos = 1 + runeCountFrom s s.size (pos + (Utf8.decode s pos).2) := by
  obtain ⟨f, hf⟩ : ∃ f, s.size = f + 1 := ⟨s.size - 1, by omega⟩
  have e : runeCountFrom s (f + 1) pos = 1 + runeCountFrom s f (pos + (Utf8.decode s pos).2) := by rw [runeCountFrom, if_pos h]
  have hw := width_pos s pos h
  rw [hf, e, fuel_enough s f (f + 1) _ (by omega) (by omega)]
/-- The bytes as a string. -/
def sOf (bs : List UInt8) : ByteArray := ⟨bs.toArray⟩
theorem sOf_size (bs : List UInt8) : (sOf bs).size = bs.length := by simp [sOf, ByteArray.size]
theorem sOf_list (bs : List UInt8) : (sOf bs).data.toList = bs := rfl
theorem sOf_get (bs : List UInt8) (j : Nat) (h : j < bs.length) : (sOf bs).get! j = bs[j] := by
  show bs.toArray[j]! = bs[j]
  simp [h]
end Go.Fmt
namespace Go.Proofs.YtcfllmebcfimeaaDoor.Fm
open Go.ChangeShapes Go.WideShapes Go.ChangeAt Go.RowKit Go.Fmt

theorem lies_of {w : World} {G : Nat} {bs : List UInt8} (h : At w G 0 bs) : Lies w G (sOf bs) := fun j hj => by
  rw [sOf_size] at hj
  have := h j hj
  rw [Nat.zero_add] at this
  rw [this, sOf_get bs j hj]

/-- A slice that is nil and empty, or whose bytes lie at the head of a block. -/
def Cpy (w : World) (q : Option Addr) (c : Nat) (bs : List UInt8) : Prop := (q = none ∧ bs = [] ∧ c = 0) ∨ ∃ g, q = some ⟨g, 0, none⟩ ∧ At w g 0 bs ∧ bs.length ≤ c
theorem Cpy.row {w : World} {q : Option Addr} {c : Nat} {bs : List UInt8} (h : Cpy w q c bs) : RowAt w q bs.length bs := by
  rcases h with ⟨rfl, rfl, _⟩ | ⟨g, rfl, h, _⟩
  · exact .inl ⟨rfl, rfl, rfl⟩
  · exact .inr ⟨_, rfl, rfl, fun j hj => by rw [addr_add0]; have := h j hj; rwa [Nat.zero_add] at this⟩
theorem Cpy.nil {w : World} {q : Option Addr} {c : Nat} {bs : List UInt8} (h : Cpy w q c bs) : q = none → c = 0 := by
  rcases h with ⟨_, _, h⟩ | ⟨g, rfl, _⟩
  · exact fun _ => h
  · exact fun h => by cases h
theorem Cpy.take {w : World} {q : Option Addr} {c : Nat} {bs : List UInt8} (h : Cpy w q c bs) (n : Nat) : Cpy w q c (bs.take n) := by
  rcases h with ⟨h1, rfl, h⟩ | ⟨g, rfl, h, hl⟩
  · exact .inl ⟨h1, by simp, h⟩
  · refine .inr ⟨g, rfl, fun j hj => ?_, by simp; omega⟩
    have hj' : j < bs.length := by simp at hj; omega
    rw [List.getElem_take]
    exact h j hj'
theorem Cpy.old {w w' : World} {q : Option Addr} {c : Nat} {bs : List UInt8} (h : Cpy w q c bs) (hb : Below w.heap.size w w') : Cpy w' q c bs := by
  rcases h with h | ⟨g, rfl, h, hl⟩
  · exact .inl h
  · exact .inr ⟨g, rfl, fun j hj => (hb.cell (World.block_lt_of_cell? w _ (h j hj))).trans (h j hj), hl⟩

theorem zzCount (q : Option Addr) (c : Nat) (bs : List UInt8) (w : World) (h : Cpy w q c bs) (hl : bs.length ≤ 1048576) :
    Calls Tryd.prog 54 #[.slice q bs.length c] w fun e w' => e = .returned (.int .i64 (rcount bs)) ∧ w = w' := by
  rcases h with ⟨rfl, rfl, rfl⟩ | ⟨G, rfl, hat, _⟩
  · go_enter Tryd.func54, Tryd.ntmps54
    go_wp2
    go_loop [3, 4] (fun n i => n = .int .i64 0 ∧ i = .int .i64 0) (fun _ _ => 0)
    case atStart => exact ⟨rfl, rfl⟩
    case round =>
      obtain ⟨rfl, rfl⟩ := hrel
      go_wp2
      go_ret
      exact ⟨rfl, rfl⟩
  · obtain ⟨s, hs⟩ : ∃ s, s = sOf bs := ⟨_, rfl⟩
    have hsz : bs.length = s.size := by rw [hs, sOf_size]
    have hR : Hid ((rcount bs : Int) = (Lib.runeCount s : Int)) := Lib.hid (by rw [hs]; rfl)
    have HZ := Lib.hid (fun i (hi : i < s.size) => zzWidth G i c s w (by rw [hs]; exact lies_of hat) hi (by omega))
    have HW := Lib.hid (fun i (hi : i < s.size) => width_pos s i hi)
    have HL := Lib.hid (fun i (hi : i < s.size) => width_le s i hi)
    have HS := Lib.hid (fun i (hi : i < s.size) => count_step s i hi)
    rw [hsz] at hl ⊢
    have hcl := Lib.runeCount_le s
    clear hs hsz hat
    go_enter Tryd.func54, Tryd.ntmps54
    go_wp2
    go_loop [3, 4] (fun n i => ∃ k m : Nat, k ≤ s.size ∧ i = .int .i64 k ∧ n = .int .i64 m ∧ m ≤ k ∧ Hid (m + Lib.runeCountFrom s s.size k = Lib.runeCount s)) (fun _ i => s.size - (intOf i).toNat)
    case atStart => exact ⟨0, 0, Nat.zero_le _, rfl, rfl, Nat.le_refl _, Lib.hid (by rw [Nat.zero_add]; rfl)⟩
    case round =>
      obtain ⟨k, m, hk, rfl, rfl, hmk, HM⟩ := hrel
      by_cases hlt : k < s.size
      · obtain ⟨wd, hwd⟩ : ∃ wd, wd = (Utf8.decode s k).2 := ⟨_, rfl⟩
        have h1 := HW.out k hlt
        have h2 := HL.out k hlt
        have HZk := Lib.hid (HZ.out k hlt)
        rw [← hwd] at h1 h2 HZk
        have HWD := Lib.hid hwd
        clear hwd
        go_wp2_with ((go_at_call 61; refine HZk.out.mono ?_; rintro e w' ⟨rfl, rfl⟩))
        go_round
        case rel =>
          refine ⟨k + wd, m + 1, h2, by go_num, by go_num, by omega, Lib.hid ?_⟩
          have h3 := HS.out k hlt
          rw [← HWD.out] at h3
          have h4 := HM.out
          omega
        case measure => simp [intOf]; omega
      · obtain rfl : k = s.size := by omega
        go_wp2
        go_ret
        refine ⟨ret_int ?_, rfl⟩
        have h4 := HM.out
        rw [Lib.runeCountFrom_end s _ _ (by omega)] at h4
        rw [hR.out]
        omega

theorem zzRuneOff (q : Option Addr) (c : Nat) (bs : List UInt8) (kk : Int) (w : World) (h : Cpy w q c bs) (hl : bs.length ≤ 1048576) (hk1 : 0 ≤ kk) (hk2 : kk ≤ 9223372036854775807) :
    Calls Tryd.prog 60 #[.slice q bs.length c, .int .i64 kk] w fun e w' => e = .returned (.int .i64 (offB (sOf bs) kk.toNat 0 : Nat)) ∧ w = w' := by
  rcases h with ⟨rfl, rfl, rfl⟩ | ⟨G, rfl, hat, _⟩
  · have hR : Hid (offB (sOf []) kk.toNat 0 = 0) := Lib.hid (offB_end _ _ _ (by simp [sOf_size]))
    by_cases hpos : 0 < kk
    all_goals
      go_enter Tryd.func60, Tryd.ntmps60
      go_wp2
      go_loop [1, 5] (fun n i => n = .int .i64 kk ∧ i = .int .i64 0) (fun _ _ => 0)
      case atStart => exact ⟨rfl, rfl⟩
      case round =>
        obtain ⟨rfl, rfl⟩ := hrel
        go_wp2
        go_ret
        exact ⟨ret_int (by rw [hR.out]; rfl), rfl⟩
  · obtain ⟨s, hs⟩ : ∃ s, s = sOf bs := ⟨_, rfl⟩
    have hsz : bs.length = s.size := by rw [hs, sOf_size]
    have HZ := Lib.hid (fun i (hi : i < s.size) => zzWidth G i c s w (by rw [hs]; exact lies_of hat) hi (by omega))
    have HW := Lib.hid (fun i (hi : i < s.size) => width_pos s i hi)
    have HL := Lib.hid (fun i (hi : i < s.size) => width_le s i hi)
    rw [← hs]
    rw [hsz] at hl ⊢
    clear hs hsz hat
    go_enter Tryd.func60, Tryd.ntmps60
    go_wp2
    go_loop [1, 5] (fun n i => ∃ (k : Nat) (m : Int), k ≤ s.size ∧ i = .int .i64 k ∧ n = .int .i64 m ∧ 0 ≤ m ∧ m ≤ 9223372036854775807 ∧ Hid (offB s m.toNat k = offB s kk.toNat 0)) (fun _ i => s.size - (intOf i).toNat)
    case atStart => exact ⟨0, kk, Nat.zero_le _, rfl, rfl, hk1, hk2, Lib.hid rfl⟩
    case round =>
      obtain ⟨k, m, hk, rfl, rfl, hm0, hm1, HM⟩ := hrel
      clear hk1 hk2
      by_cases hpos : 0 < m
      · by_cases hlt : k < s.size
        · obtain ⟨wd, hwd⟩ : ∃ wd, wd = (Utf8.decode s k).2 := ⟨_, rfl⟩
          have h1 := HW.out k hlt
          have h2 := HL.out k hlt
          have HZk := Lib.hid (HZ.out k hlt)
          rw [← hwd] at h1 h2 HZk
          have HWD := Lib.hid hwd
          clear hwd
          go_wp2_with ((go_at_call 61; refine HZk.out.mono ?_; rintro e w' ⟨rfl, rfl⟩))
          go_round
          case rel =>
            refine ⟨k + wd, m - 1, h2, by go_num, rfl, by omega, by omega, Lib.hid ?_⟩
            have e : m.toNat = (m - 1).toNat + 1 := by omega
            rw [← HM.out, e, offB_succ _ _ _ hlt, HWD.out]
          case measure => simp [intOf]; omega
        · obtain rfl : k = s.size := by omega
          go_wp2
          go_ret
          exact ⟨ret_int (by rw [← HM.out, offB_end _ _ _ hlt]), rfl⟩
      · obtain rfl : m = 0 := by omega
        go_wp2
        go_ret
        exact ⟨ret_int (by rw [← HM.out]; rfl), rfl⟩
end Go.Proofs.YtcfllmebcfimeaaDoor.Fm
