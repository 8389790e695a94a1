/- The laws' own helpers: zzRep, zzPad, zzLatin1Print, zzEnc. -/
import Derived.Test.YtfpjkkjhdblmkaaDoorIntG
import Derived.Laws.BitsLemmas
import Derived.Lib.Quote
namespace Go.Proofs.YtfpjkkjhdblmkaaDoor.Fm
open Go.ChangeShapes Go.WideShapes Go.ChangeAt Go.RowKit Go.Fmt Go.Num

set_option maxRecDepth 100000 in
set_option maxHeartbeats 1000000 in
theorem zzRep (c : UInt8) (n : Int) (w : World) (hn : n ≤ 200000) :
    Calls Tryd.prog 13 #[.int .u8 c.toNat, .int .i64 n] w fun e w' => e = .returned (.string ⟨(List.replicate n.toNat c).toArray⟩) ∧ Below w.heap.size w w' := by
  by_cases h0 : n ≤ 0
  · have e : n.toNat = 0 := by omega
    rw [e]
    clear e hn
    go_enter Tryd.func13, Tryd.ntmps13
    go_wp2
    go_ret
    exact ⟨rfl, Below.refl _ _⟩
  · obtain ⟨k, rfl⟩ : ∃ k : Nat, n = k := ⟨n.toNat, by omega⟩
    rw [Int.toNat_natCast]
    have hk2 : k ≤ 200000 := by omega
    have hk0 : ¬ k = 0 := by omega
    clear hn h0
    obtain ⟨H, hH⟩ : ∃ H, H = w.heap.size := ⟨_, rfl⟩
    have HH := Lib.hid hH
    go_enter Tryd.func13, Tryd.ntmps13
    go_wp2_with ((at_make; refine make_bytes rfl _ 46 rfl w.heap.size 5 Tryd.underlying46 info5 _ k rfl (by first | rfl | omega) (by omega) (Nat.le_refl _) ?_; intro w1 hown1 hb1 hsz1 hsame1))
    rw [← hH] at hown1 hb1 ⊢
    have hR0 := own_take hown1 (Nat.zero_le k)
    rw [List.take_zero] at hR0
    have HR0 := Lib.hid hR0
    have HB1 := Lib.hid hb1
    clear hown1 hb1 hsz1 hsame1 hR0 hH
    go_loopw [6] (fun iv wr => ∃ i : Nat, iv = .int .i64 i ∧ i ≤ k ∧ Hid (wr.ownsRow H 5 1 (.slice (some ⟨H, 0, none⟩) i k) i (bcells (List.replicate i c)) ∧ Below H w wr)) (fun iv _ => k - (intOf iv).toNat)
    case atStart => exact ⟨0, rfl, Nat.zero_le _, Lib.hid ⟨HR0.out, HB1.out⟩⟩
    case round =>
      obtain ⟨i, rfl, hik, HX⟩ := hrel
      by_cases hlt : i < k
      · obtain ⟨⟨cv, hcv⟩, hfv⟩ := own_cell HX.out.1 hlt
        have i1 : (0 : Int) ≤ (i : Int) := by omega
        have i2 : (i : Int) < (k : Int) := by omega
        go_wp2
        go_round
        case rel =>
          refine ⟨i + 1, by go_num, hlt, Lib.hid ⟨?_, ?_⟩⟩
          · have := own_set (.int .u8 (c.toNat : Int)) HX.out.1 hlt
            rw [List.replicate_succ', bcells_append]
            exact this
          · exact setCells_below (Nat.le_refl H) [_] i HX.out.2
        case measure => simp [intOf]; omega
      · obtain rfl : i = k := by omega
        have hcv := conv_own (P := Tryd.prog) (src := 46) (dst := 9) (n := i) (List.replicate i c) (by simp) (by simpa using HX.out.1) Tryd.underlying46 Tryd.underlying5 Tryd.underlying9
        have i2 : ¬ (i : Int) < (i : Int) := by omega
        go_wp2
        go_ret
        exact ⟨rfl, by rw [← HH.out]; exact HX.out.2⟩

/-- zzPad's text. -/
def zp (cs : List UInt8) (runes : Int) (wp : Bool) (wid : Int) (mi : Bool) (c : UInt8) : List UInt8 :=
  if wp = false ∨ wid = 0 then cs
  else if mi then cs ++ List.replicate (wid - runes).toNat c
  else List.replicate (wid - runes).toNat c ++ cs
theorem cat_bytes (a b : List UInt8) : (⟨a.toArray⟩ ++ ⟨b.toArray⟩ : ByteArray) = ⟨(a ++ b).toArray⟩ := by
  apply ByteArray.ext
  simp
set_option maxRecDepth 100000 in
set_option maxHeartbeats 1000000 in
theorem zzPad (cs : List UInt8) (runes : Int) (wp : Bool) (wid : Int) (mi : Bool) (c : UInt8) (w : World) (hr : 0 ≤ runes) (hr2 : runes ≤ 200000) (hw : 0 ≤ wid) (hw2 : wid ≤ 65536) (hl : cs.length ≤ 200000) :
    Calls Tryd.prog 15 #[.string ⟨cs.toArray⟩, .int .i64 runes, .bool wp, .int .i64 wid, .bool mi, .int .u8 c.toNat] w fun e w' => e = .returned (.string ⟨(zp cs runes wp wid mi c).toArray⟩) ∧ Below w.heap.size w w' := by
  cases wp
  · go_enter Tryd.func15, Tryd.ntmps15
    go_wp2
    go_ret
    exact ⟨rfl, Below.refl _ _⟩
  by_cases h0 : wid = 0
  · subst h0
    go_enter Tryd.func15, Tryd.ntmps15
    go_wp2
    go_ret
    exact ⟨rfl, Below.refl _ _⟩
  have hz : zp cs runes true wid mi c = if mi then cs ++ List.replicate (wid - runes).toNat c else List.replicate (wid - runes).toNat c ++ cs := by
    unfold zp; rw [if_neg (by simpa using h0)]
  rw [hz]
  clear hz
  have he : (wid == 0) = false := by simpa using h0
  have HC := Lib.hid (zzRep c (wid - runes) w (by omega))
  have hcat := cat_bytes cs (List.replicate (wid - runes).toNat c)
  have hcat2 := cat_bytes (List.replicate (wid - runes).toNat c) cs
  have hll : (List.replicate (wid - runes).toNat c).length ≤ 65536 := by simp; omega
  generalize List.replicate (wid - runes).toNat c = R at *
  have hwr : IntKind.i64.wrap (wid - runes) = wid - runes := IntWalk.i64_in _ (by omega)
  cases mi
  · go_enter Tryd.func15, Tryd.ntmps15
    go_wp2_with (fail)
    refine HC.out.mono ?_
    rintro e w' ⟨rfl, hb⟩
    go_wp2
    go_ret
    exact ⟨rfl, hb⟩
  · go_enter Tryd.func15, Tryd.ntmps15
    go_wp2_with (fail)
    refine HC.out.mono ?_
    rintro e w' ⟨rfl, hb⟩
    go_wp2
    go_ret
    exact ⟨rfl, hb⟩

set_option maxRecDepth 100000 in
theorem zzLatin (m : Nat) (w : World) (hm : m ≤ 255) :
    Calls Tryd.prog 17 #[.int .u64 m] w fun e w' => e = .returned (.bool (Lib.isPrintLatin m)) ∧ w = w' := by
  have HM := Lib.hid hm
  have hx : ∀ b : Bool, Lib.isPrintLatin (m : Int) = b → Hid (Lib.isPrintLatin (m : Int) = b) := fun _ h => Lib.hid h
  by_cases h1 : 32 ≤ m
  · by_cases h2 : m ≤ 126
    · have := hx true (by simp [Lib.isPrintLatin]; omega)
      clear hx
      go_enter Tryd.func17, Tryd.ntmps17
      go_wp2
      go_ret
      exact ⟨by rw [this.out]; rfl, rfl⟩
    · by_cases h3 : 161 ≤ m
      · by_cases h4 : m = 173
        · subst h4
          go_enter Tryd.func17, Tryd.ntmps17
          go_wp2
          go_ret
          exact ⟨rfl, rfl⟩
        · have := hx true (by simp [Lib.isPrintLatin]; omega)
          have h5 : ((m : Int) != 173) = true := by simp; omega
          clear hx
          go_enter Tryd.func17, Tryd.ntmps17
          go_wp2
          go_ret
          exact ⟨by rw [this.out]; rfl, rfl⟩
      · have := hx false (by simp [Lib.isPrintLatin]; omega)
        clear hx
        go_enter Tryd.func17, Tryd.ntmps17
        go_wp2
        go_ret
        exact ⟨by rw [this.out]; rfl, rfl⟩
  · have := hx false (by simp [Lib.isPrintLatin]; omega)
    clear hx
    go_enter Tryd.func17, Tryd.ntmps17
    go_wp2
    go_ret
    exact ⟨by rw [this.out]; rfl, rfl⟩
theorem i32_and63 (a : Int) (h0 : 0 ≤ a) (h1 : a < 2147483648) : bits .and .i32 a 63 = a % 64 := bits_mask .i32 31 (by decide) wraps_i32 6 (by decide) a h0 h1
theorem i32_or192 (y : Int) (h0 : 0 ≤ y) (h1 : y < 64) : bits .or .i32 192 y = 192 + y := bits_join .i32 31 (by decide) wraps_i32 6 192 y (by decide) (by decide) (by decide) h0 h1 (by omega)
theorem i32_or128 (y : Int) (h0 : 0 ≤ y) (h1 : y < 64) : bits .or .i32 128 y = 128 + y := bits_join .i32 31 (by decide) wraps_i32 6 128 y (by decide) (by decide) (by decide) h0 h1 (by omega)
theorem i32_or224 (y : Int) (h0 : 0 ≤ y) (h1 : y < 32) : bits .or .i32 224 y = 224 + y := bits_join .i32 31 (by decide) wraps_i32 5 224 y (by decide) (by decide) (by decide) h0 h1 (by omega)
theorem i32_or240 (y : Int) (h0 : 0 ≤ y) (h1 : y < 16) : bits .or .i32 240 y = 240 + y := bits_join .i32 31 (by decide) wraps_i32 4 240 y (by decide) (by decide) (by decide) h0 h1 (by omega)

/-- A text out of the bytes of a literal. -/
theorem conv_lit (w : World) (cells : Array Value) (n : Nat) (cs : List UInt8) (hn : n = cs.length) (hc : cells.toList = bcells cs) :
    (convert 46 9 (.slice (some ⟨w.heap.size, 0, none⟩) n n)).run Tryd.prog (w.alloc (.cells cells 5)) = .ok (.string ⟨cs.toArray⟩) (w.alloc (.cells cells 5)) := by
  subst hn
  refine run_convert_bytes_back _ 46 9 5 ⟨w.heap.size, 0, none⟩ cs.length cs Tryd.underlying46 Tryd.underlying5 Tryd.underlying9 (fun j hj => ?_)
  rw [addr_add0, World.cell?_alloc_new, ← Array.getElem?_toList, hc]
  simp [bcells, List.getElem?_eq_getElem hj]
set_option maxRecDepth 100000 in
set_option maxHeartbeats 1000000 in
theorem zzEnc (r : Int) (w : World) (h0 : 0 ≤ r) (h1 : r ≤ 1114111) :
    Calls Tryd.prog 16 #[.int .i32 r] w fun e w' => e = .returned (.string ⟨(encB r).toArray⟩) ∧ Below w.heap.size w w' := by
  have HA : ∀ cells, Hid (Below w.heap.size w (w.alloc (.cells cells 5))) := fun _ => Lib.hid ((Below.refl _ _).alloc (Nat.le_refl _) _)
  have hb := bcells_encB r
  have hl : (encB r).length = (encI r).length := by simp [encB]
  rcases encI_cases r with h | h | h | h | h | h | h | h
  · rw [encI_one h.1 h.2] at hb hl
    have hcv := conv_lit w #[.int .u8 r] 1 (encB r) hl.symm hb.symm
    clear hb hl
    go_enter Tryd.func16, Tryd.ntmps16
    go_wp2
    go_ret
    exact ⟨rfl, (HA _).out⟩
  · rw [encI_two h.1 h.2] at hb hl
    have hcv := conv_lit w #[.int .u8 (192 + r / 64), .int .u8 (128 + r % 64)] 2 (encB r) hl.symm hb.symm
    have e1 := i32_or192 (r / 64) (by omega) (by omega)
    have e2 := i32_and63 r (by omega) (by omega)
    have e3 := i32_or128 (r % 64) (by omega) (by omega)
    clear hb hl
    go_enter Tryd.func16, Tryd.ntmps16
    go_wp2
    go_ret
    exact ⟨rfl, (HA _).out⟩
  · rw [encI_three (.inl h)] at hb hl
    have hcv := conv_lit w #[.int .u8 (224 + r / 4096), .int .u8 (128 + r / 64 % 64), .int .u8 (128 + r % 64)] 3 (encB r) hl.symm hb.symm
    have e1 := i32_or224 (r / 4096) (by omega) (by omega)
    have e2 := i32_and63 r (by omega) (by omega)
    have e3 := i32_or128 (r % 64) (by omega) (by omega)
    have e4 := i32_and63 (r / 64) (by omega) (by omega)
    have e5 := i32_or128 (r / 64 % 64) (by omega) (by omega)
    clear hb hl
    go_enter Tryd.func16, Tryd.ntmps16
    go_wp2
    go_ret
    exact ⟨rfl, (HA _).out⟩
  · rw [encI_three (.inr h)] at hb hl
    have hcv := conv_lit w #[.int .u8 (224 + r / 4096), .int .u8 (128 + r / 64 % 64), .int .u8 (128 + r % 64)] 3 (encB r) hl.symm hb.symm
    have e1 := i32_or224 (r / 4096) (by omega) (by omega)
    have e2 := i32_and63 r (by omega) (by omega)
    have e3 := i32_or128 (r % 64) (by omega) (by omega)
    have e4 := i32_and63 (r / 64) (by omega) (by omega)
    have e5 := i32_or128 (r / 64 % 64) (by omega) (by omega)
    clear hb hl
    go_enter Tryd.func16, Tryd.ntmps16
    go_wp2
    go_ret
    exact ⟨rfl, (HA _).out⟩
  · rw [encI_four h.1 h.2] at hb hl
    have hcv := conv_lit w #[.int .u8 (240 + r / 262144), .int .u8 (128 + r / 4096 % 64), .int .u8 (128 + r / 64 % 64), .int .u8 (128 + r % 64)] 4 (encB r) hl.symm hb.symm
    have e1 := i32_or240 (r / 262144) (by omega) (by omega)
    have e2 := i32_and63 r (by omega) (by omega)
    have e3 := i32_or128 (r % 64) (by omega) (by omega)
    have e4 := i32_and63 (r / 64) (by omega) (by omega)
    have e5 := i32_or128 (r / 64 % 64) (by omega) (by omega)
    have e6 := i32_and63 (r / 4096) (by omega) (by omega)
    have e7 := i32_or128 (r / 4096 % 64) (by omega) (by omega)
    clear hb hl
    go_enter Tryd.func16, Tryd.ntmps16
    go_wp2
    go_ret
    exact ⟨rfl, (HA _).out⟩
  · omega
  · rw [encI_bad (.inr (.inl h))] at hb hl
    have hcv := conv_lit w #[.int .u8 239, .int .u8 191, .int .u8 189] 3 (encB r) hl.symm hb.symm
    have e1 : bits .or .i32 224 15 = 239 := i32_or224 15 (by decide) (by decide)
    have e2 : bits .and .i32 1023 63 = 63 := i32_and63 1023 (by decide) (by decide)
    have e3 : bits .or .i32 128 63 = 191 := i32_or128 63 (by decide) (by decide)
    have e4 : bits .and .i32 65533 63 = 61 := i32_and63 65533 (by decide) (by decide)
    have e5 : bits .or .i32 128 61 = 189 := i32_or128 61 (by decide) (by decide)
    have hh := h.1
    have hh2 := h.2
    clear hb hl
    go_enter Tryd.func16, Tryd.ntmps16
    go_wp2
    go_ret
    exact ⟨rfl, (HA _).out⟩
  · omega
end Go.Proofs.YtfpjkkjhdblmkaaDoor.Fm
