/- The functions around fmtSbx that the laws call: fmtSx, fmtBx, and the laws' own helpers. -/
import Derived.Test.YtcfllmebcfimeaaDoorHex
import Derived.Test.YtcfllmebcfimeaaDoorLit
import Derived.Test.YtcfllmebcfimeaaDoorCut
import Derived.LoopTactic
namespace Go.Proofs.YtcfllmebcfimeaaDoor.Fm
open Go.ChangeShapes Go.WideShapes Go.ChangeAt Go.RowKit Go.Fmt

theorem fmtSx (N base F B : Nat) (f : Flags) (bs : List UInt8) (s d : ByteArray) (w : World) (h : Live w N base F B f bs) (hg1 : w.cell? ⟨0, 0, none⟩ = some (.int .i64 2147483647))
    (hl : bs.length ≤ 1000000000) (hwl2 : f.wid ≤ 100000000) (hwl : -100000000 ≤ f.wid) (hn : s.data.toList.length ≤ 1048576) (hp : -1048576 ≤ f.prec ∨ f.precP = false) (hd : 17 ≤ d.size) :
    Calls Tryd.prog 46 #[.pointer (some ⟨F, 0, none⟩), .string s, .string d] w fun e w' => e = .returned (.tuple #[]) ∧ Live w' N base F B f (bs ++ hexOut f d s.data.toList) ∧ Below N w w' := by
  have hC := Lib.hid (sbx N base F B f bs s.data.toList s d none 0 0 w h hg1 (.inl ⟨rfl, rfl, rfl⟩) hl hwl2 hwl hn hp hd)
  clear h hg1
  go_enter Tryd.func46, Tryd.ntmps46
  go_wp2_with (fail)
  refine hC.out.mono ?_
  rintro e w' ⟨rfl, h3, h4⟩
  go_wp2
  go_end0
  exact ⟨rfl, h3, h4⟩

theorem fmtBx (N base F B : Nat) (f : Flags) (bs src : List UInt8) (p : Option Addr) (l c : Nat) (d : ByteArray) (w : World) (h : Live w N base F B f bs) (hg1 : w.cell? ⟨0, 0, none⟩ = some (.int .i64 2147483647)) (hs : SrcAt w N src ⟨#[]⟩ p l)
    (hl : bs.length ≤ 1000000000) (hwl2 : f.wid ≤ 100000000) (hwl : -100000000 ≤ f.wid) (hn : src.length ≤ 1048576) (hp : -1048576 ≤ f.prec ∨ f.precP = false) (hd : 17 ≤ d.size) :
    Calls Tryd.prog 45 #[.pointer (some ⟨F, 0, none⟩), .slice p l c, .string d] w fun e w' => e = .returned (.tuple #[]) ∧ Live w' N base F B f (bs ++ hexOut f d src) ∧ Below N w w' := by
  have hC := Lib.hid (sbx N base F B f bs src ⟨#[]⟩ d p l c w h hg1 hs hl hwl2 hwl hn hp hd)
  clear h hg1
  go_enter Tryd.func45, Tryd.ntmps45
  go_wp2_with (fail)
  refine hC.out.mono ?_
  rintro e w' ⟨rfl, h3, h4⟩
  go_wp2
  go_end0
  exact ⟨rfl, h3, h4⟩

set_option maxRecDepth 100000 in
set_option maxHeartbeats 2000000 in
theorem zzFmtSx (f : Flags) (s d : ByteArray) (wid prec : Int) (wp pp mi pl sh sp ze : Bool) (hf : f = ⟨wp, pp, mi, pl, sh, sp, ze, wid, prec⟩) (w : World) (hg1 : w.cell? ⟨0, 0, none⟩ = some (.int .i64 2147483647))
    (hwl : 0 ≤ wid) (hwl2 : wid ≤ 65536) (hn : s.data.toList.length ≤ 1048576) (hp : 0 ≤ prec) (hd : 17 ≤ d.size) :
    Calls Tryd.prog 18 #[.string s, .string d, .int .i64 wid, .int .i64 prec, .bool wp, .bool pp, .bool mi, .bool pl, .bool sh, .bool sp, .bool ze] w fun e w' => e = .returned (.string ⟨(hexOut f d s.data.toList).toArray⟩) ∧ Below w.heap.size w w' := by
  have hM : 0 < w.heap.size := World.block_lt_of_cell? w ⟨0, 0, none⟩ hg1
  have hbel : ∀ {arr : Array Value}, Below w.heap.size w ((w.alloc (.cells #[.slice none 0 0] 51)).alloc (.cells arr 57)) := ((Below.refl _ _).alloc (Nat.le_refl _) _).alloc (by simp) _
  have hw' : f.wid = wid := by rw [hf]
  have hp' : f.prec = prec := by rw [hf]
  rw [← hw'] at hwl hwl2
  rw [← hp'] at hp
  have HF := Lib.hid hf
  clear hf hw' hp'
  go_enter Tryd.func18, Tryd.ntmps18
  go_wp2_with (fail)
  refine (fmtSx w.heap.size (w.heap.size + 2) (w.heap.size + 1) w.heap.size f [] s d _ ?hL ?hm (by simp) (by omega) (by omega) hn (by omega) hd).mono ?_
  case hL =>
    have hz : Tryd.zeroCells57.size = 83 := Tryd.zeroCells57_size
    refine litLive w f _ hM ?_ ?_ ?_ ?_ ?_ ?_ ?_ ?_ ?_ ?_ ?_
    all_goals ((try rw [HF.out]); simp [hz])
  case hm => exact maxl_below hbel hM hg1
  rintro e w2 ⟨rfl, hl2, hb2⟩
  rw [List.nil_append] at hl2
  obtain ⟨p, cap, h1, h2, h3, h4, h5, h6, h7⟩ := hl2.buf
  have hcv := conv_own (P := Tryd.prog) (src := 51) (dst := 9) _ rfl h3 Tryd.underlying51 Tryd.underlying5 Tryd.underlying9
  clear hg1
  go_wp2
  go_ret
  exact ⟨rfl, hbel.trans hb2⟩

set_option maxRecDepth 100000 in
set_option maxHeartbeats 2000000 in
theorem zzFmtBx (f : Flags) (src : List UInt8) (q : Option Addr) (l c : Nat) (d : ByteArray) (wid prec : Int) (wp pp mi pl sh sp ze : Bool) (hf : f = ⟨wp, pp, mi, pl, sh, sp, ze, wid, prec⟩) (w : World) (hg1 : w.cell? ⟨0, 0, none⟩ = some (.int .i64 2147483647)) (hs : SrcAt w w.heap.size src ⟨#[]⟩ q l)
    (hwl : 0 ≤ wid) (hwl2 : wid ≤ 65536) (hn : src.length ≤ 1048576) (hp : 0 ≤ prec) (hd : 17 ≤ d.size) :
    Calls Tryd.prog 17 #[.slice q l c, .string d, .int .i64 wid, .int .i64 prec, .bool wp, .bool pp, .bool mi, .bool pl, .bool sh, .bool sp, .bool ze] w fun e w' => e = .returned (.string ⟨(hexOut f d src).toArray⟩) ∧ Below w.heap.size w w' := by
  have hM : 0 < w.heap.size := World.block_lt_of_cell? w ⟨0, 0, none⟩ hg1
  have hbel : ∀ {arr : Array Value}, Below w.heap.size w ((w.alloc (.cells #[.slice none 0 0] 51)).alloc (.cells arr 57)) := ((Below.refl _ _).alloc (Nat.le_refl _) _).alloc (by simp) _
  have hw' : f.wid = wid := by rw [hf]
  have hp' : f.prec = prec := by rw [hf]
  rw [← hw'] at hwl hwl2
  rw [← hp'] at hp
  have HF := Lib.hid hf
  have HS := Lib.hid hs
  clear hf hw' hp' hs
  go_enter Tryd.func17, Tryd.ntmps17
  go_wp2_with (fail)
  refine (fmtBx w.heap.size (w.heap.size + 2) (w.heap.size + 1) w.heap.size f [] src q l c d _ ?hL ?hm (HS.out.below hbel) (by simp) (by omega) (by omega) hn (by omega) hd).mono ?_
  case hL =>
    have hz : Tryd.zeroCells57.size = 83 := Tryd.zeroCells57_size
    refine litLive w f _ hM ?_ ?_ ?_ ?_ ?_ ?_ ?_ ?_ ?_ ?_ ?_
    all_goals ((try rw [HF.out]); simp [hz])
  case hm => exact maxl_below hbel hM hg1
  rintro e w2 ⟨rfl, hl2, hb2⟩
  rw [List.nil_append] at hl2
  obtain ⟨p, cap, h1, h2, h3, h4, h5, h6, h7⟩ := hl2.buf
  have hcv := conv_own (P := Tryd.prog) (src := 51) (dst := 9) _ rfl h3 Tryd.underlying51 Tryd.underlying5 Tryd.underlying9
  clear hg1
  go_wp2
  go_ret
  exact ⟨rfl, hbel.trans hb2⟩

/-- The laws' digits. -/
def digitsU (up : Bool) : ByteArray := if up then ⟨#[48, 49, 50, 51, 52, 53, 54, 55, 56, 57, 65, 66, 67, 68, 69, 70, 88]⟩ else ⟨#[48, 49, 50, 51, 52, 53, 54, 55, 56, 57, 97, 98, 99, 100, 101, 102, 120]⟩
theorem digitsU_size (up : Bool) : 17 ≤ (digitsU up).size := by cases up <;> decide
theorem zzDigits (up : Bool) (w : World) : Calls Tryd.prog 16 #[.bool up] w fun e w' => e = .returned (.string (digitsU up)) ∧ w = w' := by
  cases up
  all_goals
    go_enter Tryd.func16, Tryd.ntmps16
    go_wp2
    go_ret
    exact ⟨rfl, rfl⟩

theorem dig_lo : ∀ v : Fin 16, (dig (digitsU false) v.val).toNat = if v.val < 10 then 48 + v.val else 87 + v.val := by decide
theorem dig_up : ∀ v : Fin 16, (dig (digitsU true) v.val).toNat = if v.val < 10 then 48 + v.val else 55 + v.val := by decide
theorem zzHexDigit (v : Int) (up : Bool) (w : World) (h0 : 0 ≤ v) (h1 : v < 16) : Calls Tryd.prog 47 #[.int .u8 v, .bool up] w fun e w' => e = .returned (.int .u8 ((dig (digitsU up) v.toNat).toNat : Nat)) ∧ w = w' := by
  obtain ⟨n, rfl⟩ := Int.eq_ofNat_of_zero_le h0
  have fin : ∀ {x y : Int}, x = y → Ending.returned (.int .u8 x) = .returned (.int .u8 y) := fun h => by rw [h]
  have hn : n < 16 := by omega
  cases up
  · have hd := dig_lo ⟨n, hn⟩
    simp only at hd
    rw [Int.toNat_natCast, hd]
    clear hd
    by_cases h : n < 10
    all_goals
      go_enter Tryd.func47, Tryd.ntmps47
      go_wp2
      go_ret
      refine ⟨fin ?_, rfl⟩
      omega
  · have hd := dig_up ⟨n, hn⟩
    simp only at hd
    rw [Int.toNat_natCast, hd]
    clear hd
    by_cases h : n < 10
    all_goals
      go_enter Tryd.func47, Tryd.ntmps47
      go_wp2
      go_ret
      refine ⟨fin ?_, rfl⟩
      omega

theorem zzHexDigit' (v : Int) (n : Nat) (up : Bool) (w : World) (hv : v = n) (hn : n < 16) : Calls Tryd.prog 47 #[.int .u8 v, .bool up] w fun e w' => e = .returned (.int .u8 ((dig (digitsU up) n).toNat : Nat)) ∧ w = w' := by
  subst hv
  exact zzHexDigit n up w (by omega) (by omega)

/-- What the model lays before the loop, and what it lays in one round. -/
def hexM0 (d : ByteArray) (sh sp : Bool) (n : Nat) : List UInt8 := if sh = true ∧ sp = false ∧ 0 < n then [48, dig d 16] else []
def hexS1 (sp : Bool) (k : Nat) : List UInt8 := if sp = true ∧ 0 < k then [32] else []
def hexS2 (d : ByteArray) (sh sp : Bool) : List UInt8 := if sp = true ∧ sh = true then [48, dig d 16] else []
def hexM (d : ByteArray) (sh sp : Bool) (src : List UInt8) (n : Nat) : Nat → List UInt8
  | 0 => hexM0 d sh sp n
  | k + 1 => hexM d sh sp src n k ++ hexS1 sp k ++ hexS2 d sh sp ++ hexTok d (src.getD k 0)
theorem hexM_eq (d : ByteArray) (sh sp : Bool) (src : List UInt8) (n : Nat) (hn : 0 < n) : ∀ k, hexM d sh sp src n (k + 1) = hexN d sh sp src (k + 1)
  | 0 => by cases sh <;> cases sp <;> simp [hexM, hexM0, hexS1, hexS2, hexN, hexSep, hexPre, hn]
  | k + 1 => by
    rw [hexM, hexM_eq d sh sp src n hn k, hexN.eq_2 d sh sp src (k + 1)]
    cases sh <;> cases sp <;> simp [hexS1, hexS2, hexSep, hexPre]
theorem hexM_text (d : ByteArray) (sh sp : Bool) (src : List UInt8) (n : Nat) : hexM d sh sp src n n = hexText d sh sp src n := by
  unfold hexText
  cases n with
  | zero => simp [hexM, hexM0]
  | succ m => rw [if_neg (by omega), hexM_eq d sh sp src (m + 1) (by omega)]
theorem hexM_length (d : ByteArray) (sh sp : Bool) (src : List UInt8) (n : Nat) : ∀ k, (hexM d sh sp src n k).length ≤ 5 * k + 2
  | 0 => by unfold hexM hexM0; split <;> simp
  | k + 1 => by
    have := hexM_length d sh sp src n k
    rw [hexM]
    simp only [List.length_append]
    have h1 : (hexS1 sp k).length ≤ 1 := by unfold hexS1; split <;> simp
    have h2 : (hexS2 d sh sp).length ≤ 2 := by unfold hexS2; split <;> simp
    have h3 : (hexTok d (src.getD k 0)).length = 2 := rfl
    omega

/-- A slice of the call's own. -/
def NewRow (w : World) (bs : List UInt8) (e : Ending) (w' : World) : Prop :=
  ∃ g cap, e = .returned (.slice (some ⟨g, 0, none⟩) bs.length cap) ∧ w'.ownsRow w.heap.size 5 1 (.slice (some ⟨g, 0, none⟩) bs.length cap) bs.length (bcells bs) ∧ Below w.heap.size w w'

theorem cells_x (x : UInt8) : (#[Value.int .u8 48, Value.int .u8 (x.toNat : Int)] : Array Value).toList = bcells [48, x] := rfl
theorem cells_sp : (#[Value.int .u8 32] : Array Value).toList = bcells [32] := rfl

set_option maxRecDepth 100000 in
set_option maxHeartbeats 2000000 in
theorem zzHexModel (s : ByteArray) (K : Nat) (up sh sp : Bool) (w : World) (hK : K ≤ s.size) (hs : s.size ≤ 1048576) :
    Calls Tryd.prog 20 #[.string s, .int .i64 K, .bool up, .bool sh, .bool sp] w (NewRow w (hexText (digitsU up) sh sp s.data.toList K)) := by
  rw [← hexM_text]
  have hI := Lib.hid info5
  have HC := Lib.hid (show 5 * (K : Int) + 2 = ((5 * K + 2 : Nat) : Int) by omega)
  obtain ⟨D, hD⟩ : ∃ D, D = digitsU up := ⟨_, rfl⟩
  have hx : (dig D 16).toNat = if up then 88 else 120 := by rw [hD]; cases up <;> decide
  have HX := Lib.hid hx
  have HD := Lib.hid hD
  rw [← hD]
  clear hx hD
  go_enter Tryd.func20, Tryd.ntmps20
  go_upto_if 19 with ((at_make; refine make_cap rfl _ _ 22 rfl w.heap.size 5 Tryd.underlying22 hI.out _ (5 * K + 2) rfl rfl HC.out (by omega) (Nat.le_refl _) ?_; intro w1 hown1 hb1))
  refine wp_cut (fun a' w' => ∃ g : Nat → Value, ((g 11 = .slice (some ⟨w.heap.size, 0, none⟩) 0 (5 * K + 2) ∧ g 12 = .int .u8 ((dig D 16).toNat : Nat)) ∧ w1 = w') ∧ a' = ⟨#[.string s, .int .i64 K, .bool up, .bool sh, .bool sp, g 5, g 6, g 7, g 8, g 9, g 10, g 11, g 12, g 13, g 14, g 15, g 16, g 17, g 18, g 19, g 20, g 21, g 22, g 23, g 24, g 25, g 26, g 27, g 28, g 29, g 30, g 31, g 32, g 33, g 34, g 35, g 36, g 37, g 38, g 39, g 40, g 41, g 42, g 43, g 44, g 45, g 46, g 47, g 48, g 49, g 50, g 51, g 52, g 53, g 54, g 55, g 56, g 57, g 58, g 59, g 60, g 61, g 62, g 63, g 64, g 65, g 66, g 67, g 68], []⟩) ?rest ?first
  case first =>
    intro _ _ _ _
    cases up
    all_goals
      go_wp2
      refine Met.intro ?_
      go_step
      refine meetG (by kernel_rfl) ?_
      exact ⟨⟨rfl, by rw [HX.out]; rfl⟩, rfl⟩
  case rest =>
    rintro _ wc ⟨g, ⟨⟨h11, h12⟩, rfl⟩, rfl⟩
    rw [h11, h12]
    clear h11 h12
    obtain ⟨c1, hc1⟩ : ∃ c1 : Bool, c1 = decide (sh = true ∧ sp = false ∧ 0 < K) := ⟨_, rfl⟩
    have HC1 := Lib.hid hc1
    clear hc1
    go_upto_region 5 with (fail)
    refine wp_cut (fun a' w' => ∃ g : Nat → Value, ((g 11 = .slice (some ⟨w.heap.size, 0, none⟩) 0 (5 * K + 2) ∧ g 12 = .int .u8 ((dig D 16).toNat : Nat) ∧ g 28 = .bool c1) ∧ w1 = w') ∧ a' = ⟨#[.string s, .int .i64 K, .bool up, .bool sh, .bool sp, g 5, g 6, g 7, g 8, g 9, g 10, g 11, g 12, g 13, g 14, g 15, g 16, g 17, g 18, g 19, g 20, g 21, g 22, g 23, g 24, g 25, g 26, g 27, g 28, g 29, g 30, g 31, g 32, g 33, g 34, g 35, g 36, g 37, g 38, g 39, g 40, g 41, g 42, g 43, g 44, g 45, g 46, g 47, g 48, g 49, g 50, g 51, g 52, g 53, g 54, g 55, g 56, g 57, g 58, g 59, g 60, g 61, g 62, g 63, g 64, g 65, g 66, g 67, g 68], []⟩) ?rest ?first
    case first =>
      intro _ _ _ _
      cases sh <;> cases sp
      all_goals
        go_wp2
        refine Met.intro ?_
        go_step
        refine meetG (by kernel_rfl) ?_
        refine ⟨⟨rfl, rfl, ?_⟩, rfl⟩
        rw [HC1.out]
        refine congrArg Value.bool ?_
        simp
    case rest =>
      rintro _ wc ⟨g, ⟨⟨h11, h12, h28⟩, rfl⟩, rfl⟩
      rw [h11, h12, h28]
      clear h11 h12 h28
      go_upto_if 28 with (fail)
      refine wp_cut (fun a' w' => ∃ g : Nat → Value, (g 12 = .int .u8 ((dig D 16).toNat : Nat) ∧ ∃ (p2 : Option Addr) (cap2 : Nat), g 11 = .slice p2 (hexM0 D sh sp K).length cap2 ∧ w'.ownsRow w.heap.size 5 1 (.slice p2 (hexM0 D sh sp K).length cap2) (hexM0 D sh sp K).length (bcells (hexM0 D sh sp K)) ∧ 0 < cap2 ∧ Below w.heap.size w w') ∧ a' = ⟨#[.string s, .int .i64 K, .bool up, .bool sh, .bool sp, g 5, g 6, g 7, g 8, g 9, g 10, g 11, g 12, g 13, g 14, g 15, g 16, g 17, g 18, g 19, g 20, g 21, g 22, g 23, g 24, g 25, g 26, g 27, g 28, g 29, g 30, g 31, g 32, g 33, g 34, g 35, g 36, g 37, g 38, g 39, g 40, g 41, g 42, g 43, g 44, g 45, g 46, g 47, g 48, g 49, g 50, g 51, g 52, g 53, g 54, g 55, g 56, g 57, g 58, g 59, g 60, g 61, g 62, g 63, g 64, g 65, g 66, g 67, g 68], []⟩) ?rest ?first
      case first =>
        intro _ _ _ _
        cases c1
        · have hH : hexM0 D sh sp K = [] := by unfold hexM0; rw [if_neg (by simpa using HC1.out.symm)]
          have HH := Lib.hid hH
          clear hH
          go_wp2
          refine Met.intro ?_
          go_step
          refine meetG (by kernel_rfl) ?_
          rw [HH.out]
          exact ⟨rfl, _, _, rfl, hown1, by omega, hb1⟩
        · have hH : hexM0 D sh sp K = [48, dig D 16] := by unfold hexM0; rw [if_pos (by simpa using HC1.out.symm)]
          have HH := Lib.hid hH
          clear hH
          have hbz := hb1.size
          go_wp2_with ((at_builtin; refine append_new (w0 := w1) rfl _ _ 22 rfl w.heap.size 5 Tryd.underlying22 hI.out _ [] _ rfl hown1 _ [48, dig D 16] (cells_x (dig D 16)) _ rfl (by simp) hbz ?_; intro p2 cap2 w2 hown2 hle2 hcap2 hgrow2))
          refine Met.intro ?_
          go_step
          refine meetG (by kernel_rfl) ?_
          rw [HH.out]
          exact ⟨rfl, p2, cap2, rfl, by simpa using hown2, by simp at hle2; omega, hb1.trans ((Below.refl _ w1).grown hgrow2 hbz (fun k hk => (hown1.lt k hk).1))⟩
      case rest =>
        rintro _ w2 ⟨g, ⟨h12, p2, cap2, h11, hown2, hcp2, hb2⟩, rfl⟩
        rw [h11, h12]
        clear h11 h12 hown1 hb1
        obtain ⟨xs0, hxs0⟩ : ∃ x, x = hexM0 D sh sp K := ⟨_, rfl⟩
        rw [← hxs0] at hown2 ⊢
        have HX0 := Lib.hid hxs0
        clear hxs0
        go_wp2_with (fail)
        refine wp_loop (fun a' w' => ∃ g : Nat → Value, (g 12 = .int .u8 ((dig D 16).toNat : Nat) ∧ ∃ (p3 : Option Addr) (xs : List UInt8) (k2 cap3 : Nat), g 11 = .slice p3 xs.length cap3 ∧ g 13 = .int .i64 k2 ∧ k2 ≤ K ∧ Hid (xs = hexM D sh sp s.data.toList K k2) ∧ w'.ownsRow w.heap.size 5 1 (.slice p3 xs.length cap3) xs.length (bcells xs) ∧ 0 < cap3 ∧ Below w.heap.size w w') ∧ a' = ⟨#[.string s, .int .i64 K, .bool up, .bool sh, .bool sp, g 5, g 6, g 7, g 8, g 9, g 10, g 11, g 12, g 13, g 14, g 15, g 16, g 17, g 18, g 19, g 20, g 21, g 22, g 23, g 24, g 25, g 26, g 27, g 28, g 29, g 30, g 31, g 32, g 33, g 34, g 35, g 36, g 37, g 38, g 39, g 40, g 41, g 42, g 43, g 44, g 45, g 46, g 47, g 48, g 49, g 50, g 51, g 52, g 53, g 54, g 55, g 56, g 57, g 58, g 59, g 60, g 61, g 62, g 63, g 64, g 65, g 66, g 67, g 68], []⟩) (fun a' _ => K - (intOf (a'.tmps.getD 13 undef)).toNat) ?start ?round
        case start =>
          refine meetG (by kernel_rfl) ?_
          exact ⟨rfl, p2, xs0, 0, cap2, rfl, rfl, Nat.zero_le _, Lib.hid (by rw [HX0.out]; rfl), hown2, hcp2, hb2⟩
        case round =>
          rintro _ wr ⟨g, ⟨h12, p3, xs, k2, cap3, h11, h13, hk2, HXs, hown3, hcp3, hb3⟩, rfl⟩
          rw [h11, h12, h13]
          clear h11 h12 h13 hown2 hb2
          have hbr := hb3.size
          have hxl : xs.length ≤ 5 * k2 + 2 := by rw [HXs.out]; exact hexM_length _ _ _ _ _ _
          by_cases hlt : k2 < K
          · obtain ⟨c2, hc2⟩ : ∃ c2 : Bool, c2 = decide (sp = true ∧ 0 < k2) := ⟨_, rfl⟩
            have HC2 := Lib.hid hc2
            clear hc2
            go_upto_region 10 with (fail)
            refine wp_cut (fun a' w' => ∃ g : Nat → Value, ((g 11 = .slice p3 xs.length cap3 ∧ g 12 = .int .u8 ((dig D 16).toNat : Nat) ∧ g 13 = .int .i64 k2 ∧ g 42 = .bool c2) ∧ wr = w') ∧ a' = ⟨#[.string s, .int .i64 K, .bool up, .bool sh, .bool sp, g 5, g 6, g 7, g 8, g 9, g 10, g 11, g 12, g 13, g 14, g 15, g 16, g 17, g 18, g 19, g 20, g 21, g 22, g 23, g 24, g 25, g 26, g 27, g 28, g 29, g 30, g 31, g 32, g 33, g 34, g 35, g 36, g 37, g 38, g 39, g 40, g 41, g 42, g 43, g 44, g 45, g 46, g 47, g 48, g 49, g 50, g 51, g 52, g 53, g 54, g 55, g 56, g 57, g 58, g 59, g 60, g 61, g 62, g 63, g 64, g 65, g 66, g 67, g 68], []⟩) ?rest ?first
            case first =>
              intro _ _ _ _
              cases sp
              all_goals
                go_wp2
                refine Met.intro ?_
                go_step
                refine meetG (by kernel_rfl) ?_
                refine ⟨⟨rfl, rfl, rfl, ?_⟩, rfl⟩
                rw [HC2.out]
                refine congrArg Value.bool ?_
                simp
            case rest =>
              rintro _ wc ⟨g, ⟨⟨h11, h12, h13, h42⟩, rfl⟩, rfl⟩
              rw [h11, h12, h13, h42]
              clear h11 h12 h13 h42
              go_upto_if 42 with (fail)
              refine wp_cut (fun a' w' => ∃ g : Nat → Value, ((g 12 = .int .u8 ((dig D 16).toNat : Nat) ∧ g 13 = .int .i64 k2) ∧ ∃ (p4 : Option Addr) (cap4 : Nat), g 11 = .slice p4 (xs ++ hexS1 sp k2).length cap4 ∧ w'.ownsRow w.heap.size 5 1 (.slice p4 (xs ++ hexS1 sp k2).length cap4) (xs ++ hexS1 sp k2).length (bcells (xs ++ hexS1 sp k2)) ∧ 0 < cap4 ∧ Below w.heap.size w w') ∧ a' = ⟨#[.string s, .int .i64 K, .bool up, .bool sh, .bool sp, g 5, g 6, g 7, g 8, g 9, g 10, g 11, g 12, g 13, g 14, g 15, g 16, g 17, g 18, g 19, g 20, g 21, g 22, g 23, g 24, g 25, g 26, g 27, g 28, g 29, g 30, g 31, g 32, g 33, g 34, g 35, g 36, g 37, g 38, g 39, g 40, g 41, g 42, g 43, g 44, g 45, g 46, g 47, g 48, g 49, g 50, g 51, g 52, g 53, g 54, g 55, g 56, g 57, g 58, g 59, g 60, g 61, g 62, g 63, g 64, g 65, g 66, g 67, g 68], []⟩) ?rest ?first
              case first =>
                intro _ _ _ _
                cases c2
                · have hH : xs ++ hexS1 sp k2 = xs := by unfold hexS1; rw [if_neg (by simpa using HC2.out.symm)]; simp
                  have HH := Lib.hid hH
                  clear hH
                  go_wp2
                  refine Met.intro ?_
                  go_step
                  refine meetG (by kernel_rfl) ?_
                  rw [HH.out]
                  exact ⟨⟨rfl, rfl⟩, p3, cap3, rfl, hown3, hcp3, hb3⟩
                · have hH : xs ++ hexS1 sp k2 = xs ++ [32] := by unfold hexS1; rw [if_pos (by simpa using HC2.out.symm)]
                  have HH := Lib.hid hH
                  clear hH
                  go_wp2_with ((at_builtin; refine append_new (w0 := wr) rfl _ _ 22 rfl w.heap.size 5 Tryd.underlying22 hI.out p3 xs cap3 rfl hown3 _ [32] cells_sp _ rfl (by simp; omega) hbr ?_; intro p4 cap4 w4 hown4 hle4 hcap4 hgrow4))
                  refine Met.intro ?_
                  go_step
                  refine meetG (by kernel_rfl) ?_
                  rw [HH.out]
                  have e1 : (xs ++ [32]).length = xs.length + 1 := by simp
                  exact ⟨⟨rfl, rfl⟩, p4, cap4, by rw [e1]; rfl, by rw [e1] at hown4 ⊢; exact hown4, by simp at hle4; omega, hb3.trans ((Below.refl _ wr).grown hgrow4 hbr (fun k hk => (hown3.lt k hk).1))⟩
              case rest =>
                rintro _ w4 ⟨g, ⟨⟨h12, h13⟩, p4, cap4, h11, hown4, hcp4, hb4⟩, rfl⟩
                rw [h11, h12, h13]
                clear h11 h12 h13 hown3 hb3 hbr
                have hb4s := hb4.size
                obtain ⟨ys, hys⟩ : ∃ x, x = xs ++ hexS1 sp k2 := ⟨_, rfl⟩
                have hyl : ys.length ≤ xs.length + 1 := by rw [hys]; unfold hexS1; split <;> simp
                rw [← hys] at hown4 ⊢
                have HY := Lib.hid hys
                clear hys
                obtain ⟨c3, hc3⟩ : ∃ c3 : Bool, c3 = decide (sp = true ∧ sh = true) := ⟨_, rfl⟩
                have HC3 := Lib.hid hc3
                clear hc3
                go_upto_region 12 with (fail)
                refine wp_cut (fun a' w' => ∃ g : Nat → Value, ((g 11 = .slice p4 ys.length cap4 ∧ g 12 = .int .u8 ((dig D 16).toNat : Nat) ∧ g 13 = .int .i64 k2 ∧ g 49 = .bool c3) ∧ w4 = w') ∧ a' = ⟨#[.string s, .int .i64 K, .bool up, .bool sh, .bool sp, g 5, g 6, g 7, g 8, g 9, g 10, g 11, g 12, g 13, g 14, g 15, g 16, g 17, g 18, g 19, g 20, g 21, g 22, g 23, g 24, g 25, g 26, g 27, g 28, g 29, g 30, g 31, g 32, g 33, g 34, g 35, g 36, g 37, g 38, g 39, g 40, g 41, g 42, g 43, g 44, g 45, g 46, g 47, g 48, g 49, g 50, g 51, g 52, g 53, g 54, g 55, g 56, g 57, g 58, g 59, g 60, g 61, g 62, g 63, g 64, g 65, g 66, g 67, g 68], []⟩) ?rest ?first
                case first =>
                  intro _ _ _ _
                  cases sp
                  all_goals
                    go_wp2
                    refine Met.intro ?_
                    go_step
                    refine meetG (by kernel_rfl) ?_
                    refine ⟨⟨rfl, rfl, rfl, ?_⟩, rfl⟩
                    rw [HC3.out]
                    refine congrArg Value.bool ?_
                    simp
                case rest =>
                  rintro _ wc ⟨g, ⟨⟨h11, h12, h13, h49⟩, rfl⟩, rfl⟩
                  rw [h11, h12, h13, h49]
                  clear h11 h12 h13 h49
                  go_upto_if 49 with (fail)
                  refine wp_cut (fun a' w' => ∃ g : Nat → Value, ((g 12 = .int .u8 ((dig D 16).toNat : Nat) ∧ g 13 = .int .i64 k2) ∧ ∃ (p5 : Option Addr) (cap5 : Nat), g 11 = .slice p5 (ys ++ hexS2 D sh sp).length cap5 ∧ w'.ownsRow w.heap.size 5 1 (.slice p5 (ys ++ hexS2 D sh sp).length cap5) (ys ++ hexS2 D sh sp).length (bcells (ys ++ hexS2 D sh sp)) ∧ 0 < cap5 ∧ Below w.heap.size w w') ∧ a' = ⟨#[.string s, .int .i64 K, .bool up, .bool sh, .bool sp, g 5, g 6, g 7, g 8, g 9, g 10, g 11, g 12, g 13, g 14, g 15, g 16, g 17, g 18, g 19, g 20, g 21, g 22, g 23, g 24, g 25, g 26, g 27, g 28, g 29, g 30, g 31, g 32, g 33, g 34, g 35, g 36, g 37, g 38, g 39, g 40, g 41, g 42, g 43, g 44, g 45, g 46, g 47, g 48, g 49, g 50, g 51, g 52, g 53, g 54, g 55, g 56, g 57, g 58, g 59, g 60, g 61, g 62, g 63, g 64, g 65, g 66, g 67, g 68], []⟩) ?rest ?first
                  case first =>
                    intro _ _ _ _
                    cases c3
                    · have hH : ys ++ hexS2 D sh sp = ys := by unfold hexS2; rw [if_neg (by simpa using HC3.out.symm)]; simp
                      have HH := Lib.hid hH
                      clear hH
                      go_wp2
                      refine Met.intro ?_
                      go_step
                      refine meetG (by kernel_rfl) ?_
                      rw [HH.out]
                      exact ⟨⟨rfl, rfl⟩, p4, cap4, rfl, hown4, hcp4, hb4⟩
                    · have hH : ys ++ hexS2 D sh sp = ys ++ [48, dig D 16] := by unfold hexS2; rw [if_pos (by simpa using HC3.out.symm)]
                      have HH := Lib.hid hH
                      clear hH
                      go_wp2_with ((at_builtin; refine append_new (w0 := w4) rfl _ _ 22 rfl w.heap.size 5 Tryd.underlying22 hI.out p4 ys cap4 rfl hown4 _ [48, dig D 16] (cells_x (dig D 16)) _ rfl (by simp; omega) hb4s ?_; intro p5 cap5 w5 hown5 hle5 hcap5 hgrow5))
                      refine Met.intro ?_
                      go_step
                      refine meetG (by kernel_rfl) ?_
                      rw [HH.out]
                      have e1 : (ys ++ [48, dig D 16]).length = ys.length + 2 := by simp
                      exact ⟨⟨rfl, rfl⟩, p5, cap5, by rw [e1]; rfl, by rw [e1] at hown5 ⊢; exact hown5, by simp at hle5; omega, hb4.trans ((Below.refl _ w4).grown hgrow5 hb4s (fun k hk => (hown4.lt k hk).1))⟩
                  case rest =>
                    rintro _ w5 ⟨g, ⟨⟨h12, h13⟩, p5, cap5, h11, hown5, hcp5, hb5⟩, rfl⟩
                    rw [h11, h12, h13]
                    clear h11 h12 h13 hown4 hb4 hb4s
                    have hb5s := hb5.size
                    obtain ⟨zs, hzs⟩ : ∃ x, x = ys ++ hexS2 D sh sp := ⟨_, rfl⟩
                    have hzl : zs.length ≤ ys.length + 2 := by rw [hzs]; unfold hexS2; split <;> simp
                    rw [← hzs] at hown5 ⊢
                    have HZ := Lib.hid hzs
                    clear hzs
                    have hq : k2 < s.size := by omega
                    obtain ⟨cb, hcb⟩ : ∃ cb : UInt8, cb = s[k2]'hq := ⟨_, rfl⟩
                    have HCB := Lib.hid (hcb.trans (dig_eq s k2 hq))
                    have hcb256 : cb.toNat < 256 := UInt8.toNat_lt cb
                    have hT : bcells (hexTok D cb) = [.int .u8 ((dig (digitsU up) (cb.toNat / 16)).toNat : Nat), .int .u8 ((dig (digitsU up) (cb.toNat % 16)).toNat : Nat)] := by
                      rw [HD.out]; rfl
                    have HT := Lib.hid hT
                    clear hT
                    go_upto_region 15 with (fail)
                    rw [← hcb]
                    clear hcb
                    go_wp2_with (first
                      | (go_at_call 47; refine (zzHexDigit' _ (cb.toNat / 16) _ _ (by omega) (by omega)).mono ?_; rintro e w' ⟨rfl, rfl⟩)
                      | (go_at_call 47; refine (zzHexDigit' _ (cb.toNat % 16) _ _ (by omega) (by omega)).mono ?_; rintro e w' ⟨rfl, rfl⟩)
                      | (at_builtin; refine append_new (w0 := w5) rfl _ _ 22 rfl w.heap.size 5 Tryd.underlying22 hI.out p5 zs cap5 rfl hown5 _ (hexTok D cb) HT.out.symm _ rfl (by simp [hexTok]; omega) hb5s ?_; intro p6 cap6 w6 hown6 hle6 hcap6 hgrow6))
                    refine ⟨meetG (by kernel_rfl) ?_, ?_⟩
                    · have e1 : (zs ++ hexTok D cb).length = zs.length + 2 := by rw [List.length_append]; rfl
                      refine ⟨rfl, p6, zs ++ hexTok D cb, k2 + 1, cap6, by rw [e1]; rfl, by go_num, hlt, Lib.hid ?_, by rw [e1] at hown6 ⊢; exact hown6, by simp [hexTok] at hle6; omega, hb5.trans ((Below.refl _ w5).grown hgrow6 hb5s (fun k hk => (hown5.lt k hk).1))⟩
                      rw [HZ.out, HY.out, HXs.out, HCB.out, hexM]
                      rfl
                    · simp [intOf]
                      omega
          · obtain rfl : k2 = K := by omega
            go_wp2
            go_ret
            obtain ⟨gg, rfl, _, _⟩ := own_some hown3 hcp3
            rw [← HXs.out]
            exact ⟨gg, cap3, rfl, hown3, hb3⟩

/-- A row of the call's own is there, byte by byte. -/
theorem own_at {w : World} {base g cap : Nat} {bs : List UInt8} (h : w.ownsRow base 5 1 (.slice (some ⟨g, 0, none⟩) bs.length cap) bs.length (bcells bs)) : At w g 0 bs ∧ g < w.heap.size ∧ base ≤ g := by
  refine ⟨fun j hj => ?_, (h.lt g rfl).2, (h.lt g rfl).1⟩
  obtain ⟨h0, ⟨h1, _⟩ | ⟨g', cap', cur, h1, h2, h3, h4, h5, h6, h7⟩⟩ := h
  · cases h1
  · cases h1
    simp only [Nat.mul_one] at h6 h7
    have h8 : (bcells bs)[j]? = some (.int .u8 (bs[j].toNat : Int)) := by simp [bcells, List.getElem?_eq_getElem hj]
    rw [← h7, List.getElem?_take] at h8
    rw [if_pos hj, Array.getElem?_toList] at h8
    unfold World.cell?
    simp only [h3]
    simpa using h8
end Go.Proofs.YtcfllmebcfimeaaDoor.Fm
