/- fmtSbx: the hexadecimal text of the source's bytes, padded, is added behind what the buffer holds. -/
import Derived.Test.YtcfllmebcfimeaaDoorHexL
import Derived.Test.YtcfllmebcfimeaaDoorFmt
import Derived.Test.YtcfllmebcfimeaaDoorZPad
import Derived.Test.YtcfllmebcfimeaaDoorCut
import Derived.StillTailTactics
import Derived.Deep.RegionHeld3
import Derived.Deep.AppendLies
namespace Go.Proofs.YtcfllmebcfimeaaDoor.Fm
open Go.ChangeShapes Go.WideShapes Go.ChangeAt Go.RowKit Go.Fmt

/-- What fmtSbx adds. -/
def padB (f : Flags) (cs : List UInt8) : List UInt8 :=
  if f.widP = false then cs else if f.minus then cs ++ List.replicate (f.wid - cs.length).toNat (padByte f.zero) else List.replicate (f.wid - cs.length).toNat (padByte f.zero) ++ cs
def hexOut (f : Flags) (d : ByteArray) (src : List UInt8) : List UInt8 := padB f (hexText d f.sharp f.space src (hexK f.precP f.prec src.length).toNat)

theorem wpadLive (N base F B : Nat) (f : Flags) (bs : List UInt8) (n : Int) (w : World) (h : Live w N base F B f bs) (hg1 : w.cell? ⟨0, 0, none⟩ = some (.int .i64 2147483647)) (hl : (bs.length : Int) + n ≤ 2147483647) :
    Calls Tryd.prog 62 #[.pointer (some ⟨F, 0, none⟩), .int .i64 n] w fun e w' => e = .returned (.tuple #[]) ∧ Live w' N base F B f (bs ++ List.replicate n.toNat (padByte f.zero)) ∧ Below N w w' := by
  refine (writePadding F base ⟨B, 0, none⟩ f.zero n bs w h.buf hg1 h.fmt.buf h.fmt.zero h.hf hl).mono ?_
  rintro e w' ⟨he, h1, h2⟩
  exact ⟨he, h.kept h1 h2⟩

/-- The source's bytes as fmtSbx is handed them: a string, or a slice of an older block. -/
def SrcAt (w : World) (N : Nat) (src : List UInt8) (s : ByteArray) (p : Option Addr) (l : Nat) : Prop :=
  (p = none ∧ l = 0 ∧ s.data.toList = src) ∨ ∃ bk o, p = some ⟨bk, o, none⟩ ∧ l = src.length ∧ At w bk o src ∧ bk < N
theorem SrcAt.below {w w' : World} {N : Nat} {src : List UInt8} {s : ByteArray} {p : Option Addr} {l : Nat} (h : SrcAt w N src s p l) (hb : Below N w w') : SrcAt w' N src s p l := by
  rcases h with h | ⟨bk, o, h1, h2, h3, h4⟩
  · exact .inl h
  · exact .inr ⟨bk, o, h1, h2, h3.below hb h4, h4⟩

/-- The same, the slice in whatever block that the buffer's making leaves alone. -/
def SrcK (w : World) (base B : Nat) (src : List UInt8) (s : ByteArray) (p : Option Addr) (l : Nat) : Prop :=
  (p = none ∧ l = 0 ∧ s.data.toList = src) ∨ ∃ bk o, p = some ⟨bk, o, none⟩ ∧ l = src.length ∧ At w bk o src ∧ bk < base ∧ bk ≠ B
theorem SrcK.below {w w' : World} {base B : Nat} {src : List UInt8} {s : ByteArray} {p : Option Addr} {l : Nat} (h : SrcK w base B src s p l) (hb : Below base w w') : SrcK w' base B src s p l := by
  rcases h with h | ⟨bk, o, h1, h2, h3, h4, h5⟩
  · exact .inl h
  · exact .inr ⟨bk, o, h1, h2, h3.below hb h4, h4, h5⟩
theorem SrcK.kept {w w' : World} {base B : Nat} {src : List UInt8} {s : ByteArray} {p : Option Addr} {l : Nat} (h : SrcK w base B src s p l) (hk : Kept base ⟨B, 0, none⟩ w w') : SrcK w' base B src s p l := by
  rcases h with h | ⟨bk, o, h1, h2, h3, h4, h5⟩
  · exact .inl h
  · exact .inr ⟨bk, o, h1, h2, fun j hj => (hk.cellAt h4 (fun e => h5 (congrArg Addr.block e))).trans (h3 j hj), h4, h5⟩
theorem SrcAt.toK {w : World} {N base B : Nat} {src : List UInt8} {s : ByteArray} {p : Option Addr} {l : Nat} (h : SrcAt w N src s p l) (h1 : N ≤ B) (h2 : N ≤ base) : SrcK w base B src s p l := by
  rcases h with h | ⟨bk, o, e1, e2, e3, e4⟩
  · exact .inl h
  · exact .inr ⟨bk, o, e1, e2, e3, by omega, by omega⟩
theorem wpadK (N base F B : Nat) (f : Flags) (bs : List UInt8) (n : Int) (w : World) (h : Live w N base F B f bs) (hg1 : w.cell? ⟨0, 0, none⟩ = some (.int .i64 2147483647)) (hl : (bs.length : Int) + n ≤ 2147483647) :
    Calls Tryd.prog 62 #[.pointer (some ⟨F, 0, none⟩), .int .i64 n] w fun e w' => e = .returned (.tuple #[]) ∧ Live w' N base F B f (bs ++ List.replicate n.toNat (padByte f.zero)) ∧ Below N w w' ∧ Kept base ⟨B, 0, none⟩ w w' := by
  refine (writePadding F base ⟨B, 0, none⟩ f.zero n bs w h.buf hg1 h.fmt.buf h.fmt.zero h.hf hl).mono ?_
  rintro e w' ⟨he, h1, h2⟩
  exact ⟨he, (h.kept h1 h2).1, (h.kept h1 h2).2, h2⟩

theorem eqlNil (p : Option Addr) (l c : Nat) (w : World) : (binOp .eql 22 (.slice p l c) (.slice none 0 0)).run Tryd.prog w = .ok (.bool p.isNone) w := by
  cases p <;> rfl

theorem padB_split (f : Flags) (T : List UInt8) : padB f T = (if decide (f.widP = true ∧ (T.length : Int) < f.wid ∧ f.minus = false) = true then List.replicate (f.wid - T.length).toNat (padByte f.zero) else []) ++ T ++
    (if decide (f.widP = true ∧ (T.length : Int) < f.wid ∧ f.minus = true) = true then List.replicate (f.wid - T.length).toNat (padByte f.zero) else []) := by
  unfold padB
  cases f.widP <;> cases f.minus <;> simp
  all_goals omega
theorem grown_alloc_drew {w w' : World} {o : Obj} {r : Option Nat} (h : ((w.alloc o).drew).grownBy w' r) : w.grownBy w' r := by
  have hsz : ((w.alloc o).drew).heap.size = w.heap.size + 1 := by simp
  refine ⟨h.os, h.tape, h.output, Nat.le_trans (by rw [hsz]; omega) h.size, fun k hk hr => ?_⟩
  rw [h.block k (by rw [hsz]; omega) hr]
  exact Below.heap_alloc w o k hk
theorem dig_eq (d : ByteArray) (j : Nat) (h : j < d.size) : d[j]'h = dig d j := by
  unfold dig
  rw [List.getD_eq_getElem?_getD, Array.getElem?_toList]
  simp [Array.getElem?_eq_getElem (show j < d.data.size from h)]
  rfl
theorem cells_pre (d : ByteArray) (h : 16 < d.size) : (#[Value.int .u8 48, Value.int .u8 ((d[16]'h).toNat : Int)] : Array Value).toList = bcells [48, dig d 16] := by
  rw [← dig_eq d 16 h]; rfl
theorem u8_and15 (b : UInt8) : bits .and .u8 (b.toNat : Int) 15 = (b.toNat : Int) % 16 := by
  have h := u8_and_nat b.toNat 15 (UInt8.toNat_lt b) (by omega)
  rw [show ((15 : Nat) : Int) = 15 from rfl] at h
  rw [h, show b.toNat &&& 15 = b.toNat % 16 from Nat.and_two_pow_sub_one_eq_mod _ 4]
  omega
theorem news_tok {w : World} {d : ByteArray} {b : UInt8} (h1 : ((b.toNat : Int) / 16).toNat < d.size) (h2 : ((b.toNat : Int) % 16).toNat < d.size) :
    ∀ j u, (bcells (hexTok d b))[j]? = some u → ((w.alloc (.cells #[.int .u8 ((d[((b.toNat : Int) / 16).toNat]'h1).toNat : Int), .int .u8 ((d[((b.toNat : Int) % 16).toNat]'h2).toNat : Int)] 5)).drew).cell? ((⟨w.heap.size, 0, none⟩ : Addr).add j) = some u := by
  have e : (#[.int .u8 ((d[((b.toNat : Int) / 16).toNat]'h1).toNat : Int), .int .u8 ((d[((b.toNat : Int) % 16).toNat]'h2).toNat : Int)] : Array Value).toList = bcells (hexTok d b) := by
    rw [dig_eq d _ h1, dig_eq d _ h2]
    rfl
  intro j u hj
  rw [← e] at hj
  exact World.news_of_block (t := 5) (fr := (0, 0)) (heap_alloc_new w _) j u hj
theorem cells_two (x y : UInt8) : (#[Value.int .u8 (x.toNat : Int), Value.int .u8 (y.toNat : Int)] : Array Value).toList = bcells [x, y] := rfl

set_option maxRecDepth 100000 in
set_option maxHeartbeats 4000000 in
theorem sbxK (N base F B : Nat) (f : Flags) (bs src : List UInt8) (s d : ByteArray) (p : Option Addr) (l c : Nat) (w : World) (h : Live w N base F B f bs) (hg1 : w.cell? ⟨0, 0, none⟩ = some (.int .i64 2147483647)) (hs : SrcK w base B src s p l)
    (hl : bs.length ≤ 1000000000) (hwl2 : f.wid ≤ 100000000) (hwl : -100000000 ≤ f.wid) (hn : src.length ≤ 1048576) (hp : -1048576 ≤ f.prec ∨ f.precP = false) (hd : 17 ≤ d.size) :
    Calls Tryd.prog 55 #[.pointer (some ⟨F, 0, none⟩), .string s, .slice p l c, .string d] w fun e w' => e = .returned (.tuple #[]) ∧ Live w' N base F B f (bs ++ hexOut f d src) ∧ Below N w w' := by
  obtain ⟨k, hk2⟩ : ∃ k : Int, k = hexK f.precP f.prec src.length := ⟨_, rfl⟩
  obtain ⟨c1, hc1⟩ : ∃ c1 : Bool, c1 = decide (f.precP = true ∧ f.prec < src.length) := ⟨_, rfl⟩
  have hkl : -1048576 ≤ k := by
    rw [hk2]; unfold hexK; split
    · rename_i h1
      rcases hp with hp | hp
      · exact hp
      · rw [hp] at h1; cases h1.1
    · omega
  have hku : k ≤ src.length := by rw [hk2]; exact hexK_le _ _ _
  have q1 := h.fmt.widP
  have q2 := h.fmt.precP
  have q4 := h.fmt.wid
  have q5 := h.fmt.prec
  have HK := Lib.hid hk2
  have HC1 := Lib.hid hc1
  have he := eqlNil p l c
  clear hk2 hc1 hp
  go_enter Tryd.func55, Tryd.ntmps55
  go_upto_if 16 with (fail)
  refine wp_cut (fun a' w' => ∃ g : Nat → Value, (g 8 = .int .i64 src.length ∧ w = w') ∧ a' = ⟨#[.pointer (some ⟨F, 0, none⟩), .string s, .slice p l c, .string d, g 4, g 5, g 6, g 7, g 8, g 9, g 10, g 11, g 12, g 13, g 14, g 15, g 16, g 17, g 18, g 19, g 20, g 21, g 22, g 23, g 24, g 25, g 26, g 27, g 28, g 29, g 30, g 31, g 32, g 33, g 34, g 35, g 36, g 37, g 38, g 39, g 40, g 41, g 42, g 43, g 44, g 45, g 46, g 47, g 48, g 49, g 50, g 51, g 52, g 53, g 54, g 55, g 56, g 57, g 58, g 59, g 60, g 61, g 62, g 63, g 64, g 65, g 66, g 67, g 68, g 69, g 70, g 71, g 72, g 73, g 74, g 75, g 76, g 77, g 78, g 79, g 80, g 81, g 82, g 83, g 84, g 85, g 86, g 87, g 88, g 89, g 90, g 91, g 92, g 93, g 94, g 95, g 96, g 97, g 98, g 99, g 100, g 101, g 102, g 103, g 104, g 105, g 106, g 107, g 108, g 109, g 110, g 111, g 112, g 113, g 114, g 115, g 116, g 117, g 118, g 119, g 120, g 121, g 122, g 123, g 124, g 125, g 126, g 127, g 128, g 129, g 130, g 131, g 132, g 133, g 134, g 135, g 136, g 137, g 138, g 139, g 140, g 141, g 142, g 143, g 144, g 145, g 146, g 147, g 148, g 149, g 150, g 151, g 152, g 153, g 154, g 155, g 156, g 157, g 158, g 159, g 160, g 161, g 162, g 163, g 164, g 165, g 166, g 167, g 168, g 169, g 170, g 171, g 172, g 173, g 174, g 175, g 176, g 177, g 178, g 179, g 180, g 181, g 182, g 183, g 184, g 185, g 186, g 187, g 188, g 189, g 190, g 191, g 192, g 193, g 194, g 195, g 196, g 197, g 198, g 199], []⟩) ?rest ?first
  case first =>
    intro _ _ _ _
    rcases hs with ⟨rfl, rfl, hs⟩ | ⟨bk, o, rfl, rfl, _, _⟩
    · have hsz : s.size = src.length := by rw [← hs]; exact (Array.length_toList ..).symm
      clear hs h hg1
      go_wp2
      refine Met.intro ?_
      go_step
      refine meetG (by kernel_rfl) ?_
      exact ⟨rfl, rfl⟩
    · clear h hg1
      go_wp2
      refine Met.intro ?_
      go_step
      refine meetG (by kernel_rfl) ?_
      exact ⟨rfl, rfl⟩
  case rest =>
    rintro _ wc ⟨g, ⟨h8, rfl⟩, rfl⟩
    rw [h8]
    clear h8
    go_upto_region 3 with (fail)
    refine wp_cut (fun a' w' => ∃ g : Nat → Value, ((g 8 = .int .i64 src.length ∧ g 31 = .bool c1) ∧ w = w') ∧ a' = ⟨#[.pointer (some ⟨F, 0, none⟩), .string s, .slice p l c, .string d, g 4, g 5, g 6, g 7, g 8, g 9, g 10, g 11, g 12, g 13, g 14, g 15, g 16, g 17, g 18, g 19, g 20, g 21, g 22, g 23, g 24, g 25, g 26, g 27, g 28, g 29, g 30, g 31, g 32, g 33, g 34, g 35, g 36, g 37, g 38, g 39, g 40, g 41, g 42, g 43, g 44, g 45, g 46, g 47, g 48, g 49, g 50, g 51, g 52, g 53, g 54, g 55, g 56, g 57, g 58, g 59, g 60, g 61, g 62, g 63, g 64, g 65, g 66, g 67, g 68, g 69, g 70, g 71, g 72, g 73, g 74, g 75, g 76, g 77, g 78, g 79, g 80, g 81, g 82, g 83, g 84, g 85, g 86, g 87, g 88, g 89, g 90, g 91, g 92, g 93, g 94, g 95, g 96, g 97, g 98, g 99, g 100, g 101, g 102, g 103, g 104, g 105, g 106, g 107, g 108, g 109, g 110, g 111, g 112, g 113, g 114, g 115, g 116, g 117, g 118, g 119, g 120, g 121, g 122, g 123, g 124, g 125, g 126, g 127, g 128, g 129, g 130, g 131, g 132, g 133, g 134, g 135, g 136, g 137, g 138, g 139, g 140, g 141, g 142, g 143, g 144, g 145, g 146, g 147, g 148, g 149, g 150, g 151, g 152, g 153, g 154, g 155, g 156, g 157, g 158, g 159, g 160, g 161, g 162, g 163, g 164, g 165, g 166, g 167, g 168, g 169, g 170, g 171, g 172, g 173, g 174, g 175, g 176, g 177, g 178, g 179, g 180, g 181, g 182, g 183, g 184, g 185, g 186, g 187, g 188, g 189, g 190, g 191, g 192, g 193, g 194, g 195, g 196, g 197, g 198, g 199], []⟩) ?rest ?first
    case first =>
      intro _ _ _ _
      clear h hg1 hs he
      by_cases h1 : f.precP = true
      · rw [h1] at q2
        go_wp2
        refine Met.intro ?_
        go_step
        refine meetG (by kernel_rfl) ?_
        exact ⟨⟨rfl, by rw [HC1.out]; simp [h1]; rfl⟩, rfl⟩
      · rw [Bool.not_eq_true] at h1
        rw [h1] at q2
        go_wp2
        refine Met.intro ?_
        go_step
        refine meetG (by kernel_rfl) ?_
        exact ⟨⟨rfl, by rw [HC1.out]; simp [h1]; rfl⟩, rfl⟩
    case rest =>
      rintro _ wc ⟨g, ⟨⟨h8, h31⟩, rfl⟩, rfl⟩
      rw [h8, h31]
      clear h8 h31
      go_upto_if 31 with (fail)
      refine wp_cut (fun a' w' => ∃ g : Nat → Value, (g 8 = .int .i64 k ∧ w = w') ∧ a' = ⟨#[.pointer (some ⟨F, 0, none⟩), .string s, .slice p l c, .string d, g 4, g 5, g 6, g 7, g 8, g 9, g 10, g 11, g 12, g 13, g 14, g 15, g 16, g 17, g 18, g 19, g 20, g 21, g 22, g 23, g 24, g 25, g 26, g 27, g 28, g 29, g 30, g 31, g 32, g 33, g 34, g 35, g 36, g 37, g 38, g 39, g 40, g 41, g 42, g 43, g 44, g 45, g 46, g 47, g 48, g 49, g 50, g 51, g 52, g 53, g 54, g 55, g 56, g 57, g 58, g 59, g 60, g 61, g 62, g 63, g 64, g 65, g 66, g 67, g 68, g 69, g 70, g 71, g 72, g 73, g 74, g 75, g 76, g 77, g 78, g 79, g 80, g 81, g 82, g 83, g 84, g 85, g 86, g 87, g 88, g 89, g 90, g 91, g 92, g 93, g 94, g 95, g 96, g 97, g 98, g 99, g 100, g 101, g 102, g 103, g 104, g 105, g 106, g 107, g 108, g 109, g 110, g 111, g 112, g 113, g 114, g 115, g 116, g 117, g 118, g 119, g 120, g 121, g 122, g 123, g 124, g 125, g 126, g 127, g 128, g 129, g 130, g 131, g 132, g 133, g 134, g 135, g 136, g 137, g 138, g 139, g 140, g 141, g 142, g 143, g 144, g 145, g 146, g 147, g 148, g 149, g 150, g 151, g 152, g 153, g 154, g 155, g 156, g 157, g 158, g 159, g 160, g 161, g 162, g 163, g 164, g 165, g 166, g 167, g 168, g 169, g 170, g 171, g 172, g 173, g 174, g 175, g 176, g 177, g 178, g 179, g 180, g 181, g 182, g 183, g 184, g 185, g 186, g 187, g 188, g 189, g 190, g 191, g 192, g 193, g 194, g 195, g 196, g 197, g 198, g 199], []⟩) ?rest ?first
      case first =>
        intro _ _ _ _
        clear h hg1 hs he
        cases c1
        · have hkk : k = src.length := by rw [HK.out]; unfold hexK; rw [if_neg (by simpa using HC1.out.symm)]
          go_wp2
          refine Met.intro ?_
          go_step
          refine meetG (by kernel_rfl) ?_
          exact ⟨by rw [hkk]; rfl, rfl⟩
        · have hkk : k = f.prec := by rw [HK.out]; unfold hexK; rw [if_pos (by simpa using HC1.out.symm)]
          go_wp2
          refine Met.intro ?_
          go_step
          refine meetG (by kernel_rfl) ?_
          exact ⟨by rw [hkk]; rfl, rfl⟩
      case rest =>
        rintro _ wc ⟨g, ⟨h8, rfl⟩, rfl⟩
        rw [h8]
        clear h8
        by_cases hk : k ≤ 0
        · have hP := Lib.hid (wpadLive N base F B f bs f.wid w h hg1 (by omega))
          have HX : hexOut f d src = padB f [] := by unfold hexOut; rw [← HK.out, show k.toNat = 0 by omega]; rfl
          have hd0 : decide (0 < 2 * k) = false := by simp; omega
          by_cases h1 : f.widP = true
          · have HY : padB f [] = List.replicate f.wid.toNat (padByte f.zero) := by unfold padB; rw [if_neg (by simp [h1])]; split <;> simp
            have HZ := Lib.hid (HX.trans HY)
            rw [h1] at q1
            clear h hg1 hs he HX HY
            go_wp2_with (fail)
            refine hP.out.mono ?_
            rintro e w' ⟨rfl, h3, h4⟩
            go_wp2
            try simp only [Exit.inBlock, Exit.then]
            refine bodyPost_ret (results_none rfl _ _ _) rfl ?_
            exact ⟨rfl, by rw [HZ.out]; exact h3, h4⟩
          · rw [Bool.not_eq_true] at h1
            have HY : padB f [] = [] := by unfold padB; rw [if_pos h1]
            have HZ := Lib.hid (HX.trans HY)
            rw [h1] at q1
            have HL := Lib.hid h
            clear h hg1 hs he HX HY
            go_wp2_with (fail)
            try simp only [Exit.inBlock, Exit.then]
            refine bodyPost_ret (results_none rfl _ _ _) rfl ?_
            exact ⟨rfl, by rw [HZ.out, List.append_nil]; exact HL.out, Below.refl _ _⟩
        · obtain ⟨K, rfl⟩ := Int.eq_ofNat_of_zero_le (show 0 ≤ k by omega)
          obtain ⟨T, hT⟩ : ∃ T : List UInt8, T = hexN d f.sharp f.space src K := ⟨_, rfl⟩
          have hTl : T.length = hexLen f.sharp f.space K := by
            rw [hT]
            obtain ⟨m, rfl⟩ : ∃ m, K = m + 1 := ⟨K - 1, by omega⟩
            exact hexN_length _ _ _ _ _
          have hTu : T.length ≤ 5 * K + 2 := by rw [hT]; exact hexN_length_le _ _ _ _ _
          have HO : hexOut f d src = padB f T := by unfold hexOut hexText; rw [← HK.out, Int.toNat_natCast, if_neg (by omega), hT]
          have HT := Lib.hid hT
          have HTl := Lib.hid hTl
          have HOut := Lib.hid HO
          clear hT hTl HO he
          have q6 := h.fmt.space
          have q7 := h.fmt.sharp
          have hd0 : decide (0 < 2 * (K : Int)) = true := by simp; omega
          go_upto_if 39 with (fail)
          refine wp_cut (fun a' w' => ∃ g : Nat → Value, ((g 8 = .int .i64 K ∧ g 9 = .int .i64 (T.length : Nat)) ∧ w = w') ∧ a' = ⟨#[.pointer (some ⟨F, 0, none⟩), .string s, .slice p l c, .string d, g 4, g 5, g 6, g 7, g 8, g 9, g 10, g 11, g 12, g 13, g 14, g 15, g 16, g 17, g 18, g 19, g 20, g 21, g 22, g 23, g 24, g 25, g 26, g 27, g 28, g 29, g 30, g 31, g 32, g 33, g 34, g 35, g 36, g 37, g 38, g 39, g 40, g 41, g 42, g 43, g 44, g 45, g 46, g 47, g 48, g 49, g 50, g 51, g 52, g 53, g 54, g 55, g 56, g 57, g 58, g 59, g 60, g 61, g 62, g 63, g 64, g 65, g 66, g 67, g 68, g 69, g 70, g 71, g 72, g 73, g 74, g 75, g 76, g 77, g 78, g 79, g 80, g 81, g 82, g 83, g 84, g 85, g 86, g 87, g 88, g 89, g 90, g 91, g 92, g 93, g 94, g 95, g 96, g 97, g 98, g 99, g 100, g 101, g 102, g 103, g 104, g 105, g 106, g 107, g 108, g 109, g 110, g 111, g 112, g 113, g 114, g 115, g 116, g 117, g 118, g 119, g 120, g 121, g 122, g 123, g 124, g 125, g 126, g 127, g 128, g 129, g 130, g 131, g 132, g 133, g 134, g 135, g 136, g 137, g 138, g 139, g 140, g 141, g 142, g 143, g 144, g 145, g 146, g 147, g 148, g 149, g 150, g 151, g 152, g 153, g 154, g 155, g 156, g 157, g 158, g 159, g 160, g 161, g 162, g 163, g 164, g 165, g 166, g 167, g 168, g 169, g 170, g 171, g 172, g 173, g 174, g 175, g 176, g 177, g 178, g 179, g 180, g 181, g 182, g 183, g 184, g 185, g 186, g 187, g 188, g 189, g 190, g 191, g 192, g 193, g 194, g 195, g 196, g 197, g 198, g 199], []⟩) ?rest ?first
          case first =>
            intro _ _ _ _
            clear h hg1 hs
            cases hsp : f.space <;> cases hsh : f.sharp
            all_goals
              have hLen := HTl.out
              rw [hsp, hsh] at hLen
              simp only [hexLen, if_true, if_false, Bool.false_eq_true] at hLen
              have HLen := Lib.hid hLen
              rw [hsp] at q6
              rw [hsh] at q7
              clear hsp hsh hLen
              go_wp2
              refine Met.intro ?_
              go_step
              refine meetG (by kernel_rfl) ?_
              refine ⟨⟨rfl, ?_⟩, rfl⟩
              rw [HLen.out]
              refine congrArg (Value.int .i64) ?_
              omega
          case rest =>
            rintro _ wc ⟨g, ⟨⟨h8, h9⟩, rfl⟩, rfl⟩
            rw [h8, h9]
            clear h8 h9
            obtain ⟨c2, hc2⟩ : ∃ c2 : Bool, c2 = decide (f.widP = true ∧ (T.length : Int) < f.wid ∧ f.minus = false) := ⟨_, rfl⟩
            have HC2 := Lib.hid hc2
            clear hc2
            have q8 := h.fmt.minus
            go_upto_region 15 with (fail)
            refine wp_cut (fun a' w' => ∃ g : Nat → Value, ((g 8 = .int .i64 K ∧ g 9 = .int .i64 (T.length : Nat) ∧ g 94 = .bool c2) ∧ w = w') ∧ a' = ⟨#[.pointer (some ⟨F, 0, none⟩), .string s, .slice p l c, .string d, g 4, g 5, g 6, g 7, g 8, g 9, g 10, g 11, g 12, g 13, g 14, g 15, g 16, g 17, g 18, g 19, g 20, g 21, g 22, g 23, g 24, g 25, g 26, g 27, g 28, g 29, g 30, g 31, g 32, g 33, g 34, g 35, g 36, g 37, g 38, g 39, g 40, g 41, g 42, g 43, g 44, g 45, g 46, g 47, g 48, g 49, g 50, g 51, g 52, g 53, g 54, g 55, g 56, g 57, g 58, g 59, g 60, g 61, g 62, g 63, g 64, g 65, g 66, g 67, g 68, g 69, g 70, g 71, g 72, g 73, g 74, g 75, g 76, g 77, g 78, g 79, g 80, g 81, g 82, g 83, g 84, g 85, g 86, g 87, g 88, g 89, g 90, g 91, g 92, g 93, g 94, g 95, g 96, g 97, g 98, g 99, g 100, g 101, g 102, g 103, g 104, g 105, g 106, g 107, g 108, g 109, g 110, g 111, g 112, g 113, g 114, g 115, g 116, g 117, g 118, g 119, g 120, g 121, g 122, g 123, g 124, g 125, g 126, g 127, g 128, g 129, g 130, g 131, g 132, g 133, g 134, g 135, g 136, g 137, g 138, g 139, g 140, g 141, g 142, g 143, g 144, g 145, g 146, g 147, g 148, g 149, g 150, g 151, g 152, g 153, g 154, g 155, g 156, g 157, g 158, g 159, g 160, g 161, g 162, g 163, g 164, g 165, g 166, g 167, g 168, g 169, g 170, g 171, g 172, g 173, g 174, g 175, g 176, g 177, g 178, g 179, g 180, g 181, g 182, g 183, g 184, g 185, g 186, g 187, g 188, g 189, g 190, g 191, g 192, g 193, g 194, g 195, g 196, g 197, g 198, g 199], []⟩) ?rest ?first
            case first =>
              intro _ _ _ _
              clear h hg1 hs
              cases h1 : f.widP
              · rw [h1] at q1
                go_wp2
                refine Met.intro ?_
                go_step
                refine meetG (by kernel_rfl) ?_
                exact ⟨⟨rfl, rfl, by rw [HC2.out]; simp [h1]; rfl⟩, rfl⟩
              · rw [h1] at q1
                by_cases h2 : (T.length : Int) < f.wid
                · have h2' : decide ((T.length : Int) < f.wid) = true := by simpa using h2
                  go_wp2
                  refine Met.intro ?_
                  go_step
                  refine meetG (by kernel_rfl) ?_
                  exact ⟨⟨rfl, rfl, by rw [HC2.out]; simp [h1, h2]; rfl⟩, rfl⟩
                · have h2' : decide ((T.length : Int) < f.wid) = false := by simpa using h2
                  go_wp2
                  refine Met.intro ?_
                  go_step
                  refine meetG (by kernel_rfl) ?_
                  exact ⟨⟨rfl, rfl, by rw [HC2.out, decide_eq_false (fun h => by have := h.2.1; omega)]; rfl⟩, rfl⟩
            case rest =>
              rintro _ wc ⟨g, ⟨⟨h8, h9, h94⟩, rfl⟩, rfl⟩
              rw [h8, h9, h94]
              clear h8 h9 h94
              go_upto_if 94 with (fail)
              refine wp_cut (fun a' w' => ∃ g : Nat → Value, ((g 8 = .int .i64 K ∧ g 9 = .int .i64 (T.length : Nat)) ∧ Live w' N base F B f (bs ++ if c2 then List.replicate (f.wid - T.length).toNat (padByte f.zero) else []) ∧ SrcK w' base B src s p l ∧ Below N w w') ∧ a' = ⟨#[.pointer (some ⟨F, 0, none⟩), .string s, .slice p l c, .string d, g 4, g 5, g 6, g 7, g 8, g 9, g 10, g 11, g 12, g 13, g 14, g 15, g 16, g 17, g 18, g 19, g 20, g 21, g 22, g 23, g 24, g 25, g 26, g 27, g 28, g 29, g 30, g 31, g 32, g 33, g 34, g 35, g 36, g 37, g 38, g 39, g 40, g 41, g 42, g 43, g 44, g 45, g 46, g 47, g 48, g 49, g 50, g 51, g 52, g 53, g 54, g 55, g 56, g 57, g 58, g 59, g 60, g 61, g 62, g 63, g 64, g 65, g 66, g 67, g 68, g 69, g 70, g 71, g 72, g 73, g 74, g 75, g 76, g 77, g 78, g 79, g 80, g 81, g 82, g 83, g 84, g 85, g 86, g 87, g 88, g 89, g 90, g 91, g 92, g 93, g 94, g 95, g 96, g 97, g 98, g 99, g 100, g 101, g 102, g 103, g 104, g 105, g 106, g 107, g 108, g 109, g 110, g 111, g 112, g 113, g 114, g 115, g 116, g 117, g 118, g 119, g 120, g 121, g 122, g 123, g 124, g 125, g 126, g 127, g 128, g 129, g 130, g 131, g 132, g 133, g 134, g 135, g 136, g 137, g 138, g 139, g 140, g 141, g 142, g 143, g 144, g 145, g 146, g 147, g 148, g 149, g 150, g 151, g 152, g 153, g 154, g 155, g 156, g 157, g 158, g 159, g 160, g 161, g 162, g 163, g 164, g 165, g 166, g 167, g 168, g 169, g 170, g 171, g 172, g 173, g 174, g 175, g 176, g 177, g 178, g 179, g 180, g 181, g 182, g 183, g 184, g 185, g 186, g 187, g 188, g 189, g 190, g 191, g 192, g 193, g 194, g 195, g 196, g 197, g 198, g 199], []⟩) ?rest ?first
              case first =>
                intro _ _ _ _
                cases c2
                · have HL := Lib.hid h
                  have HSS := Lib.hid hs
                  clear h hg1 hs
                  go_wp2
                  refine Met.intro ?_
                  go_step
                  refine meetG (by kernel_rfl) ?_
                  exact ⟨⟨rfl, rfl⟩, by simpa using HL.out, HSS.out, Below.refl _ _⟩
                · have hP := Lib.hid (wpadK N base F B f bs (f.wid - T.length) w h hg1 (by omega))
                  have HSS := Lib.hid hs
                  clear h hg1 hs
                  go_wp2_with (fail)
                  refine hP.out.mono ?_
                  rintro e w' ⟨rfl, h3, h4, h5⟩
                  have HS5 := Lib.hid (HSS.out.kept h5)
                  clear h5
                  go_wp2
                  refine Met.intro ?_
                  go_step
                  refine meetG (by kernel_rfl) ?_
                  exact ⟨⟨rfl, rfl⟩, by simpa using h3, HS5.out, h4⟩
              case rest =>
                rintro _ w1 ⟨g, ⟨⟨h8, h9⟩, hL1, hs1, hb1⟩, rfl⟩
                rw [h8, h9]
                clear h8 h9
                clear hs
                have hm1 := maxl_below hb1 h.maxl hg1
                generalize hbs1 : (bs ++ if c2 = true then List.replicate (f.wid - T.length).toNat (padByte f.zero) else []) = bs1 at *
                have HBS := Lib.hid hbs1
                have hl1 : bs1.length ≤ 1000000000 + 100000000 := by rw [← hbs1]; simp; split <;> simp <;> omega
                clear hbs1 h hg1 q1 q2 q4 q5 q6 q7 q8
                have q0 := hL1.fmt.buf
                have q7 := hL1.fmt.sharp
                have hI := Lib.hid info5
                obtain ⟨p0, cap0, hb2, hfr, hown, hle, hmx, hab, hbase⟩ := hL1.buf
                go_upto_if 113 with (fail)
                refine wp_cut (fun a' w' => ∃ g : Nat → Value, ((g 8 = .int .i64 K ∧ g 9 = .int .i64 (T.length : Nat)) ∧ ∃ p1 cap1, g 10 = .slice p1 (bs1 ++ hexPre d f.sharp).length cap1 ∧ w'.ownsRow base 5 1 (.slice p1 (bs1 ++ hexPre d f.sharp).length cap1) (bs1 ++ hexPre d f.sharp).length (bcells (bs1 ++ hexPre d f.sharp)) ∧ Below base w1 w') ∧ a' = ⟨#[.pointer (some ⟨F, 0, none⟩), .string s, .slice p l c, .string d, g 4, g 5, g 6, g 7, g 8, g 9, g 10, g 11, g 12, g 13, g 14, g 15, g 16, g 17, g 18, g 19, g 20, g 21, g 22, g 23, g 24, g 25, g 26, g 27, g 28, g 29, g 30, g 31, g 32, g 33, g 34, g 35, g 36, g 37, g 38, g 39, g 40, g 41, g 42, g 43, g 44, g 45, g 46, g 47, g 48, g 49, g 50, g 51, g 52, g 53, g 54, g 55, g 56, g 57, g 58, g 59, g 60, g 61, g 62, g 63, g 64, g 65, g 66, g 67, g 68, g 69, g 70, g 71, g 72, g 73, g 74, g 75, g 76, g 77, g 78, g 79, g 80, g 81, g 82, g 83, g 84, g 85, g 86, g 87, g 88, g 89, g 90, g 91, g 92, g 93, g 94, g 95, g 96, g 97, g 98, g 99, g 100, g 101, g 102, g 103, g 104, g 105, g 106, g 107, g 108, g 109, g 110, g 111, g 112, g 113, g 114, g 115, g 116, g 117, g 118, g 119, g 120, g 121, g 122, g 123, g 124, g 125, g 126, g 127, g 128, g 129, g 130, g 131, g 132, g 133, g 134, g 135, g 136, g 137, g 138, g 139, g 140, g 141, g 142, g 143, g 144, g 145, g 146, g 147, g 148, g 149, g 150, g 151, g 152, g 153, g 154, g 155, g 156, g 157, g 158, g 159, g 160, g 161, g 162, g 163, g 164, g 165, g 166, g 167, g 168, g 169, g 170, g 171, g 172, g 173, g 174, g 175, g 176, g 177, g 178, g 179, g 180, g 181, g 182, g 183, g 184, g 185, g 186, g 187, g 188, g 189, g 190, g 191, g 192, g 193, g 194, g 195, g 196, g 197, g 198, g 199], []⟩) ?rest ?first
                case first =>
                  intro _ _ _ _
                  cases hsh : f.sharp
                  · rw [hsh] at q7
                    have hH : bs1 ++ hexPre d f.sharp = bs1 := by rw [hsh]; simp [hexPre]
                    have HH := Lib.hid hH
                    clear hH
                    go_wp2
                    refine Met.intro ?_
                    go_step
                    refine meetG (by kernel_rfl) ?_
                    rw [HH.out]
                    exact ⟨⟨rfl, rfl⟩, p0, cap0, rfl, hown, Below.refl _ _⟩
                  · rw [hsh] at q7
                    have hH : bs1 ++ hexPre d f.sharp = bs1 ++ [48, dig d 16] := by rw [hsh]; rfl
                    have HH := Lib.hid hH
                    clear hH
                    go_wp2_with ((at_builtin; refine append_new (w0 := w1) rfl _ _ 51 rfl base 5 Tryd.underlying51 hI.out p0 bs1 cap0 rfl hown _ [48, dig d 16] (cells_pre d (by omega)) _ rfl (by simp; omega) hbase ?_; intro p' cap' w' hown' hcap1 hcap2 hgrow))
                    refine Met.intro ?_
                    go_step
                    refine meetG (by kernel_rfl) ?_
                    rw [HH.out]
                    have e1 : (bs1 ++ [48, dig d 16]).length = bs1.length + 2 := by simp
                    exact ⟨⟨rfl, rfl⟩, p', cap', by rw [e1]; rfl, by rw [e1] at hown' ⊢; exact hown', (Below.refl _ w1).grown hgrow hbase (fun k hk => (hown.lt k hk).1)⟩
                case rest =>
                  rintro _ w2 ⟨g, ⟨⟨h8, h9⟩, p1, cap1, h10, hown1, hb3⟩, rfl⟩
                  rw [h8, h9, h10]
                  clear h8 h9 h10 hown q7 hle hmx
                  have HB2 := Lib.hid hb2
                  clear hb2
                  obtain ⟨xs0, hxs0⟩ : ∃ x, x = bs1 ++ hexPre d f.sharp := ⟨_, rfl⟩
                  rw [← hxs0] at hown1 ⊢
                  have HX0 := Lib.hid hxs0
                  clear hxs0
                  have HN : ∀ w', Below base w1 w' → FmtAt w' F ⟨B, 0, none⟩ f ∧ SrcK w' base B src s p l := fun w' hb => ⟨hL1.fmt.below hb hL1.hf, hs1.below hb⟩
                  go_wp2_with (fail)
                  refine wp_loop (fun a' w' => ∃ g : Nat → Value, ((g 8 = .int .i64 K ∧ g 9 = .int .i64 (T.length : Nat)) ∧ ∃ (p2 : Option Addr) (xs : List UInt8) (k2 cap2 : Nat), g 10 = .slice p2 xs.length cap2 ∧ g 12 = .int .i64 k2 ∧ k2 ≤ K ∧ Hid (xs = bs1 ++ hexN d f.sharp f.space src k2) ∧ w'.ownsRow base 5 1 (.slice p2 xs.length cap2) xs.length (bcells xs) ∧ Below base w1 w') ∧ a' = ⟨#[.pointer (some ⟨F, 0, none⟩), .string s, .slice p l c, .string d, g 4, g 5, g 6, g 7, g 8, g 9, g 10, g 11, g 12, g 13, g 14, g 15, g 16, g 17, g 18, g 19, g 20, g 21, g 22, g 23, g 24, g 25, g 26, g 27, g 28, g 29, g 30, g 31, g 32, g 33, g 34, g 35, g 36, g 37, g 38, g 39, g 40, g 41, g 42, g 43, g 44, g 45, g 46, g 47, g 48, g 49, g 50, g 51, g 52, g 53, g 54, g 55, g 56, g 57, g 58, g 59, g 60, g 61, g 62, g 63, g 64, g 65, g 66, g 67, g 68, g 69, g 70, g 71, g 72, g 73, g 74, g 75, g 76, g 77, g 78, g 79, g 80, g 81, g 82, g 83, g 84, g 85, g 86, g 87, g 88, g 89, g 90, g 91, g 92, g 93, g 94, g 95, g 96, g 97, g 98, g 99, g 100, g 101, g 102, g 103, g 104, g 105, g 106, g 107, g 108, g 109, g 110, g 111, g 112, g 113, g 114, g 115, g 116, g 117, g 118, g 119, g 120, g 121, g 122, g 123, g 124, g 125, g 126, g 127, g 128, g 129, g 130, g 131, g 132, g 133, g 134, g 135, g 136, g 137, g 138, g 139, g 140, g 141, g 142, g 143, g 144, g 145, g 146, g 147, g 148, g 149, g 150, g 151, g 152, g 153, g 154, g 155, g 156, g 157, g 158, g 159, g 160, g 161, g 162, g 163, g 164, g 165, g 166, g 167, g 168, g 169, g 170, g 171, g 172, g 173, g 174, g 175, g 176, g 177, g 178, g 179, g 180, g 181, g 182, g 183, g 184, g 185, g 186, g 187, g 188, g 189, g 190, g 191, g 192, g 193, g 194, g 195, g 196, g 197, g 198, g 199], []⟩) (fun a' _ => K - (intOf (a'.tmps.getD 12 undef)).toNat) ?start ?round
                  case start =>
                    refine meetG (by kernel_rfl) ?_
                    exact ⟨⟨rfl, rfl⟩, p1, xs0, 0, cap1, rfl, rfl, Nat.zero_le _, Lib.hid (by rw [HX0.out]; rfl), hown1, hb3⟩
                  case round =>
                    rintro _ wr ⟨g, ⟨⟨h8, h9⟩, p2, xs, k2, cap2, h10, h12, hk2, HX, hown2, hb4⟩, rfl⟩
                    rw [h8, h9, h10, h12]
                    clear h8 h9 h10 h12 hown1 hb3
                    have hbr : base ≤ wr.heap.size := Nat.le_trans hbase hb4.size
                    have hxl : xs.length ≤ 1000000000 + 100000000 + 5 * k2 + 2 := by
                      rw [HX.out, List.length_append]
                      have := hexN_length_le d f.sharp f.space src k2
                      omega
                    by_cases hlt : k2 < K
                    · obtain ⟨hF, hS⟩ := HN wr hb4
                      have q6 := hF.space
                      have q7 := hF.sharp
                      clear hF q0
                      obtain ⟨c3, hc3⟩ : ∃ c3 : Bool, c3 = decide (f.space = true ∧ 0 < k2) := ⟨_, rfl⟩
                      have HC3 := Lib.hid hc3
                      clear hc3
                      go_upto_region 24 with (fail)
                      refine wp_cut (fun a' w' => ∃ g : Nat → Value, ((g 8 = .int .i64 K ∧ g 9 = .int .i64 (T.length : Nat) ∧ g 10 = .slice p2 xs.length cap2 ∧ g 12 = .int .i64 k2 ∧ g 132 = .bool c3) ∧ wr = w') ∧ a' = ⟨#[.pointer (some ⟨F, 0, none⟩), .string s, .slice p l c, .string d, g 4, g 5, g 6, g 7, g 8, g 9, g 10, g 11, g 12, g 13, g 14, g 15, g 16, g 17, g 18, g 19, g 20, g 21, g 22, g 23, g 24, g 25, g 26, g 27, g 28, g 29, g 30, g 31, g 32, g 33, g 34, g 35, g 36, g 37, g 38, g 39, g 40, g 41, g 42, g 43, g 44, g 45, g 46, g 47, g 48, g 49, g 50, g 51, g 52, g 53, g 54, g 55, g 56, g 57, g 58, g 59, g 60, g 61, g 62, g 63, g 64, g 65, g 66, g 67, g 68, g 69, g 70, g 71, g 72, g 73, g 74, g 75, g 76, g 77, g 78, g 79, g 80, g 81, g 82, g 83, g 84, g 85, g 86, g 87, g 88, g 89, g 90, g 91, g 92, g 93, g 94, g 95, g 96, g 97, g 98, g 99, g 100, g 101, g 102, g 103, g 104, g 105, g 106, g 107, g 108, g 109, g 110, g 111, g 112, g 113, g 114, g 115, g 116, g 117, g 118, g 119, g 120, g 121, g 122, g 123, g 124, g 125, g 126, g 127, g 128, g 129, g 130, g 131, g 132, g 133, g 134, g 135, g 136, g 137, g 138, g 139, g 140, g 141, g 142, g 143, g 144, g 145, g 146, g 147, g 148, g 149, g 150, g 151, g 152, g 153, g 154, g 155, g 156, g 157, g 158, g 159, g 160, g 161, g 162, g 163, g 164, g 165, g 166, g 167, g 168, g 169, g 170, g 171, g 172, g 173, g 174, g 175, g 176, g 177, g 178, g 179, g 180, g 181, g 182, g 183, g 184, g 185, g 186, g 187, g 188, g 189, g 190, g 191, g 192, g 193, g 194, g 195, g 196, g 197, g 198, g 199], []⟩) ?rest ?first
                      case first =>
                        intro _ _ _ _
                        cases hsp : f.space
                        · rw [hsp] at q6
                          go_wp2
                          refine Met.intro ?_
                          go_step
                          refine meetG (by kernel_rfl) ?_
                          exact ⟨⟨rfl, rfl, rfl, rfl, by rw [HC3.out, hsp]; rfl⟩, rfl⟩
                        · rw [hsp] at q6
                          go_wp2
                          refine Met.intro ?_
                          go_step
                          refine meetG (by kernel_rfl) ?_
                          refine ⟨⟨rfl, rfl, rfl, rfl, ?_⟩, rfl⟩
                          rw [HC3.out, hsp]
                          refine congrArg Value.bool ?_
                          simp
                      case rest =>
                        rintro _ wc ⟨g, ⟨⟨h8, h9, h10, h12, h132⟩, rfl⟩, rfl⟩
                        rw [h8, h9, h10, h12, h132]
                        clear h8 h9 h10 h12 h132
                        go_upto_if 132 with (fail)
                        refine wp_cut (fun a' w' => ∃ g : Nat → Value, ((g 8 = .int .i64 K ∧ g 9 = .int .i64 (T.length : Nat) ∧ g 12 = .int .i64 k2) ∧ ∃ (p3 : Option Addr) (cap3 : Nat), g 10 = .slice p3 (xs ++ hexSep d f.sharp f.space k2).length cap3 ∧ w'.ownsRow base 5 1 (.slice p3 (xs ++ hexSep d f.sharp f.space k2).length cap3) (xs ++ hexSep d f.sharp f.space k2).length (bcells (xs ++ hexSep d f.sharp f.space k2)) ∧ Below base w1 w') ∧ a' = ⟨#[.pointer (some ⟨F, 0, none⟩), .string s, .slice p l c, .string d, g 4, g 5, g 6, g 7, g 8, g 9, g 10, g 11, g 12, g 13, g 14, g 15, g 16, g 17, g 18, g 19, g 20, g 21, g 22, g 23, g 24, g 25, g 26, g 27, g 28, g 29, g 30, g 31, g 32, g 33, g 34, g 35, g 36, g 37, g 38, g 39, g 40, g 41, g 42, g 43, g 44, g 45, g 46, g 47, g 48, g 49, g 50, g 51, g 52, g 53, g 54, g 55, g 56, g 57, g 58, g 59, g 60, g 61, g 62, g 63, g 64, g 65, g 66, g 67, g 68, g 69, g 70, g 71, g 72, g 73, g 74, g 75, g 76, g 77, g 78, g 79, g 80, g 81, g 82, g 83, g 84, g 85, g 86, g 87, g 88, g 89, g 90, g 91, g 92, g 93, g 94, g 95, g 96, g 97, g 98, g 99, g 100, g 101, g 102, g 103, g 104, g 105, g 106, g 107, g 108, g 109, g 110, g 111, g 112, g 113, g 114, g 115, g 116, g 117, g 118, g 119, g 120, g 121, g 122, g 123, g 124, g 125, g 126, g 127, g 128, g 129, g 130, g 131, g 132, g 133, g 134, g 135, g 136, g 137, g 138, g 139, g 140, g 141, g 142, g 143, g 144, g 145, g 146, g 147, g 148, g 149, g 150, g 151, g 152, g 153, g 154, g 155, g 156, g 157, g 158, g 159, g 160, g 161, g 162, g 163, g 164, g 165, g 166, g 167, g 168, g 169, g 170, g 171, g 172, g 173, g 174, g 175, g 176, g 177, g 178, g 179, g 180, g 181, g 182, g 183, g 184, g 185, g 186, g 187, g 188, g 189, g 190, g 191, g 192, g 193, g 194, g 195, g 196, g 197, g 198, g 199], []⟩) ?rest ?first
                        case first =>
                          intro _ _ _ _
                          cases c3
                          · have hH : xs ++ hexSep d f.sharp f.space k2 = xs := by unfold hexSep; rw [if_neg (by simpa using HC3.out.symm)]; simp
                            have HH := Lib.hid hH
                            clear hH
                            go_wp2
                            refine Met.intro ?_
                            go_step
                            refine meetG (by kernel_rfl) ?_
                            rw [HH.out]
                            exact ⟨⟨rfl, rfl, rfl⟩, p2, cap2, rfl, hown2, hb4⟩
                          · cases hsh : f.sharp
                            · rw [hsh] at q7
                              have hH : xs ++ hexSep d f.sharp f.space k2 = xs ++ [32] := by unfold hexSep; rw [if_pos (by simpa using HC3.out.symm), hsh]; rfl
                              have HH := Lib.hid hH
                              clear hH
                              go_wp2_with ((at_builtin; refine append_new (w0 := wr) rfl _ _ 51 rfl base 5 Tryd.underlying51 hI.out p2 xs cap2 rfl hown2 _ [32] (cells_byte 32) _ rfl (by simp; omega) hbr ?_; intro p' cap' w' hown' hcap1 hcap2 hgrow; have hbw := (Below.refl _ wr).grown hgrow hbr (fun k hk => (hown2.lt k hk).1); have q7' := (hbw.cell (p := ⟨F, 5, none⟩) hL1.hf).trans q7))
                              refine Met.intro ?_
                              go_step
                              refine meetG (by kernel_rfl) ?_
                              rw [HH.out]
                              have e1 : (xs ++ [32]).length = xs.length + 1 := by simp
                              exact ⟨⟨rfl, rfl, rfl⟩, p', cap', by rw [e1]; rfl, by rw [e1] at hown' ⊢; exact hown', hb4.trans hbw⟩
                            · rw [hsh] at q7
                              have hH : xs ++ hexSep d f.sharp f.space k2 = (xs ++ [32]) ++ [48, dig d 16] := by unfold hexSep; rw [if_pos (by simpa using HC3.out.symm), hsh]; simp [hexPre]
                              have HH := Lib.hid hH
                              clear hH
                              go_wp2_with (first
                                | (at_builtin; refine append_new (w0 := wr) rfl _ _ 51 rfl base 5 Tryd.underlying51 hI.out p2 xs cap2 rfl hown2 _ [32] (cells_byte 32) _ rfl (by simp; omega) hbr ?_; intro p' cap' w' hown' hcap1 hcap2 hgrow; have hbw := (Below.refl _ wr).grown hgrow hbr (fun k hk => (hown2.lt k hk).1); have q7' := (hbw.cell (p := ⟨F, 5, none⟩) hL1.hf).trans q7; have hbr' : base ≤ w'.heap.size := Nat.le_trans hbr hbw.size; rw [← List.length_append] at hown')
                                | (at_builtin; refine append_new (w0 := w') rfl _ _ 51 rfl base 5 Tryd.underlying51 hI.out p' (xs ++ [32]) cap' (by rw [List.length_append]; rfl) hown' _ [48, dig d 16] (cells_pre d (by omega)) _ rfl (by simp; omega) hbr' ?_; intro p4 cap4 w4 hown4 hcap3 hcap4 hgrow4; have hbw4 := (Below.refl _ w').grown hgrow4 hbr' (fun k hk => (hown'.lt k hk).1)))
                              refine Met.intro ?_
                              go_step
                              refine meetG (by kernel_rfl) ?_
                              rw [HH.out]
                              have e1 : ((xs ++ [32]) ++ [48, dig d 16]).length = (xs ++ [32]).length + 2 := by simp
                              exact ⟨⟨rfl, rfl, rfl⟩, p4, cap4, by rw [e1, List.length_append]; rfl, by rw [e1] at hown4 ⊢; exact hown4, hb4.trans (hbw.trans hbw4)⟩
                        case rest =>
                          rintro _ w3 ⟨g, ⟨⟨h8, h9, h12⟩, p3, cap3, h10, hown3, hb5⟩, rfl⟩
                          rw [h8, h9, h10, h12]
                          clear h8 h9 h10 h12 hS q6 q7
                          obtain ⟨ys, hys⟩ : ∃ x, x = xs ++ hexSep d f.sharp f.space k2 := ⟨_, rfl⟩
                          have hyl : ys.length ≤ xs.length + 3 := by
                            rw [hys]; unfold hexSep hexPre; split
                            · split <;> simp
                            · simp
                          rw [← hys] at hown3 ⊢
                          have HY := Lib.hid hys
                          clear hys hown2 hbr
                          obtain ⟨_, hS⟩ := HN w3 hb5
                          have hbr3 : base ≤ w3.heap.size := Nat.le_trans hbase hb5.size
                          have hlt2 : k2 < src.length := by omega
                          go_upto_if 147 with (fail)
                          refine wp_cut (fun a' w' => ∃ g : Nat → Value, ((g 8 = .int .i64 K ∧ g 9 = .int .i64 (T.length : Nat) ∧ g 10 = .slice p3 ys.length cap3 ∧ g 11 = .int .u8 (src.getD k2 0).toNat ∧ g 12 = .int .i64 k2) ∧ w3 = w') ∧ a' = ⟨#[.pointer (some ⟨F, 0, none⟩), .string s, .slice p l c, .string d, g 4, g 5, g 6, g 7, g 8, g 9, g 10, g 11, g 12, g 13, g 14, g 15, g 16, g 17, g 18, g 19, g 20, g 21, g 22, g 23, g 24, g 25, g 26, g 27, g 28, g 29, g 30, g 31, g 32, g 33, g 34, g 35, g 36, g 37, g 38, g 39, g 40, g 41, g 42, g 43, g 44, g 45, g 46, g 47, g 48, g 49, g 50, g 51, g 52, g 53, g 54, g 55, g 56, g 57, g 58, g 59, g 60, g 61, g 62, g 63, g 64, g 65, g 66, g 67, g 68, g 69, g 70, g 71, g 72, g 73, g 74, g 75, g 76, g 77, g 78, g 79, g 80, g 81, g 82, g 83, g 84, g 85, g 86, g 87, g 88, g 89, g 90, g 91, g 92, g 93, g 94, g 95, g 96, g 97, g 98, g 99, g 100, g 101, g 102, g 103, g 104, g 105, g 106, g 107, g 108, g 109, g 110, g 111, g 112, g 113, g 114, g 115, g 116, g 117, g 118, g 119, g 120, g 121, g 122, g 123, g 124, g 125, g 126, g 127, g 128, g 129, g 130, g 131, g 132, g 133, g 134, g 135, g 136, g 137, g 138, g 139, g 140, g 141, g 142, g 143, g 144, g 145, g 146, g 147, g 148, g 149, g 150, g 151, g 152, g 153, g 154, g 155, g 156, g 157, g 158, g 159, g 160, g 161, g 162, g 163, g 164, g 165, g 166, g 167, g 168, g 169, g 170, g 171, g 172, g 173, g 174, g 175, g 176, g 177, g 178, g 179, g 180, g 181, g 182, g 183, g 184, g 185, g 186, g 187, g 188, g 189, g 190, g 191, g 192, g 193, g 194, g 195, g 196, g 197, g 198, g 199], []⟩) ?rest ?first
                          case first =>
                            intro _ _ _ _
                            rcases hS with ⟨rfl, rfl, hs⟩ | ⟨bk, o, rfl, rfl, hat, hbk⟩
                            · have hsz : s.size = src.length := by rw [← hs]; exact (Array.length_toList ..).symm
                              have hq : k2 < s.size := by omega
                              have HS := Lib.hid hs
                              clear hs hsz
                              go_wp2
                              refine Met.intro ?_
                              go_step
                              refine meetG (by kernel_rfl) ?_
                              refine ⟨⟨rfl, rfl, rfl, ?_, rfl⟩, rfl⟩
                              rw [← HS.out]
                              exact congrArg (fun x : UInt8 => Value.int .u8 (x.toNat : Int)) (dig_eq s k2 hq)
                            · have hq := hat k2 hlt2
                              clear hat
                              go_wp2
                              refine Met.intro ?_
                              go_step
                              refine meetG (by kernel_rfl) ?_
                              refine ⟨⟨rfl, rfl, rfl, ?_, rfl⟩, rfl⟩
                              rw [List.getD_eq_getElem?_getD, List.getElem?_eq_getElem hlt2]
                              rfl
                          case rest =>
                            rintro _ wc ⟨g, ⟨⟨h8, h9, h10, h11, h12⟩, rfl⟩, rfl⟩
                            rw [h8, h9, h10, h11, h12]
                            clear h8 h9 h10 h11 h12 hS
                            obtain ⟨cb, hcb⟩ : ∃ cb : UInt8, cb = src.getD k2 0 := ⟨_, rfl⟩
                            rw [← hcb]
                            have HCB := Lib.hid hcb
                            clear hcb
                            have hcb256 : cb.toNat < 256 := UInt8.toNat_lt cb
                            go_upto_region 31 with (fail)
                            obtain ⟨i0, hi0, hz0, hz1, hz2⟩ := info_parts hI.out
                            have hmax : ys.length + 2 ≤ maxLen := by unfold maxLen; omega
                            have hx1 : (0 : Int) ≤ (cb.toNat : Int) / 16 := by omega
                            have hx2 : (cb.toNat : Int) / 16 < (d.size : Int) := by omega
                            have hx3 : (0 : Int) ≤ (cb.toNat : Int) % 16 := by omega
                            have hx4 : (cb.toNat : Int) % 16 < (d.size : Int) := by omega
                            have hx5 := u8_and15 cb
                            have hy1 : ((cb.toNat : Int) / 16).toNat < d.size := by omega
                            have hy2 : ((cb.toNat : Int) % 16).toNat < d.size := by omega
                            go_region_held3 (fun _ => True) (first | trivial)
                              ((refine step_append_lies _ (by rfl) _ _ _ (by rfl) base 5 i0 _ 1 1 Tryd.underlying51 hi0 hz0 hz1 hz2 rfl (by omega) (.slice p3 ys.length cap3) ys.length (bcells ys) (by rfl) ((hown3.alloc _).drew)
                                  ⟨w3.heap.size, 0, none⟩ 2 2 (bcells (hexTok d cb)) (by rfl) (by rfl) (news_tok hy1 hy2) (by simp [Value.oneCell', bcells])
                                  (by omega) hmax (by omega) (by simp; omega) (w3.heap.size + 1) (by simp) ?_; intro gg cap5 w5 hown5 hgrow5 hat5 hlt5))
                            all_goals
                              have hg6 : w3.grownBy w5 (Value.slice p3 ys.length cap3).ownBlock := grown_alloc_drew hgrow5
                              clear hgrow5 hat5 hlt5
                              go_wp2
                              refine ⟨meetG (by kernel_rfl) ?_, ?_⟩
                              · have e1 : (ys ++ hexTok d cb).length = ys.length + 2 := by rw [List.length_append]; rfl
                                refine ⟨⟨rfl, rfl⟩, some ⟨gg, 0, none⟩, ys ++ hexTok d cb, k2 + 1, cap5, by rw [e1]; rfl, by go_num, hlt, Lib.hid ?_, by rw [e1, bcells_append]; exact hown5, hb5.trans ((Below.refl _ w3).grown hg6 hbr3 (fun k hk => (hown3.lt k hk).1))⟩
                                rw [HY.out, HX.out, HCB.out, hexN]
                                simp [List.append_assoc]
                              · simp [intOf]
                                omega
                    · obtain rfl : k2 = K := by omega
                      obtain ⟨hF, _⟩ := HN wr hb4
                      have q0' := hF.buf
                      have hcB := (hb4.cell (p := ⟨B, 0, none⟩) hab).trans HB2.out
                      have hfB := (hb4.frozen (p := ⟨B, 0, none⟩) hab).trans hfr
                      obtain ⟨hBS, hKS⟩ := buf_set (cs := xs) hL1.buf hb4 hown2
                      obtain ⟨hLS, hbS⟩ := hL1.kept hBS hKS
                      clear hBS hKS hF q0
                      go_upto_region 33 with (fail)
                      generalize wr.setCell ⟨B, 0, none⟩ (Value.slice p2 xs.length cap2) = wS at *
                      have hmS := maxl_below hbS hL1.maxl hm1
                      have q1 := hLS.fmt.widP
                      have q4 := hLS.fmt.wid
                      have q8 := hLS.fmt.minus
                      clear q0' hcB hfB hb4 hown2 hs1 HN hm1
                      obtain ⟨c4, hc4⟩ : ∃ c4 : Bool, c4 = decide (f.widP = true ∧ (T.length : Int) < f.wid ∧ f.minus = true) := ⟨_, rfl⟩
                      have HC4 := Lib.hid hc4
                      clear hc4
                      have HFin : bs ++ hexOut f d src = xs ++ if c4 = true then List.replicate (f.wid - T.length).toNat (padByte f.zero) else [] := by
                        rw [HOut.out, padB_split, ← HC2.out, ← HC4.out, HX.out, ← HT.out, ← HBS.out]
                        simp only [List.append_assoc]
                      have HFin' := Lib.hid HFin
                      clear HFin
                      refine wp_cut (fun a' w' => ∃ g : Nat → Value, ((g 9 = .int .i64 (T.length : Nat) ∧ g 191 = .bool c4) ∧ wS = w') ∧ a' = ⟨#[.pointer (some ⟨F, 0, none⟩), .string s, .slice p l c, .string d, g 4, g 5, g 6, g 7, g 8, g 9, g 10, g 11, g 12, g 13, g 14, g 15, g 16, g 17, g 18, g 19, g 20, g 21, g 22, g 23, g 24, g 25, g 26, g 27, g 28, g 29, g 30, g 31, g 32, g 33, g 34, g 35, g 36, g 37, g 38, g 39, g 40, g 41, g 42, g 43, g 44, g 45, g 46, g 47, g 48, g 49, g 50, g 51, g 52, g 53, g 54, g 55, g 56, g 57, g 58, g 59, g 60, g 61, g 62, g 63, g 64, g 65, g 66, g 67, g 68, g 69, g 70, g 71, g 72, g 73, g 74, g 75, g 76, g 77, g 78, g 79, g 80, g 81, g 82, g 83, g 84, g 85, g 86, g 87, g 88, g 89, g 90, g 91, g 92, g 93, g 94, g 95, g 96, g 97, g 98, g 99, g 100, g 101, g 102, g 103, g 104, g 105, g 106, g 107, g 108, g 109, g 110, g 111, g 112, g 113, g 114, g 115, g 116, g 117, g 118, g 119, g 120, g 121, g 122, g 123, g 124, g 125, g 126, g 127, g 128, g 129, g 130, g 131, g 132, g 133, g 134, g 135, g 136, g 137, g 138, g 139, g 140, g 141, g 142, g 143, g 144, g 145, g 146, g 147, g 148, g 149, g 150, g 151, g 152, g 153, g 154, g 155, g 156, g 157, g 158, g 159, g 160, g 161, g 162, g 163, g 164, g 165, g 166, g 167, g 168, g 169, g 170, g 171, g 172, g 173, g 174, g 175, g 176, g 177, g 178, g 179, g 180, g 181, g 182, g 183, g 184, g 185, g 186, g 187, g 188, g 189, g 190, g 191, g 192, g 193, g 194, g 195, g 196, g 197, g 198, g 199], []⟩) ?rest ?first
                      case first =>
                        intro _ _ _ _
                        cases h1 : f.widP
                        · rw [h1] at q1
                          go_wp2
                          refine Met.intro ?_
                          go_step
                          refine meetG (by kernel_rfl) ?_
                          exact ⟨⟨rfl, by rw [HC4.out]; simp [h1]; rfl⟩, rfl⟩
                        · rw [h1] at q1
                          by_cases h2 : (T.length : Int) < f.wid
                          · have h2' : decide ((T.length : Int) < f.wid) = true := by simpa using h2
                            go_wp2
                            refine Met.intro ?_
                            go_step
                            refine meetG (by kernel_rfl) ?_
                            exact ⟨⟨rfl, by rw [HC4.out]; simp [h1, h2]; rfl⟩, rfl⟩
                          · have h2' : decide ((T.length : Int) < f.wid) = false := by simpa using h2
                            go_wp2
                            refine Met.intro ?_
                            go_step
                            refine meetG (by kernel_rfl) ?_
                            exact ⟨⟨rfl, by rw [HC4.out, decide_eq_false (fun h => by have := h.2.1; omega)]; rfl⟩, rfl⟩
                      case rest =>
                        rintro _ wc ⟨g, ⟨⟨h9, h191⟩, rfl⟩, rfl⟩
                        rw [h9, h191]
                        clear h9 h191
                        cases c4
                        · have HLS := Lib.hid hLS
                          clear hLS
                          go_wp2
                          go_end0
                          refine ⟨rfl, ?_, hb1.trans hbS⟩
                          rw [HFin'.out]
                          simpa using HLS.out
                        · have hP := Lib.hid (wpadLive N base F B f xs (f.wid - T.length) wS hLS hmS (by omega))
                          clear hLS hmS
                          go_wp2_with (fail)
                          refine hP.out.mono ?_
                          rintro e w' ⟨rfl, h3, h4⟩
                          go_wp2
                          go_end0
                          refine ⟨rfl, ?_, hb1.trans (hbS.trans h4)⟩
                          rw [HFin'.out]
                          simpa using h3
theorem sbx (N base F B : Nat) (f : Flags) (bs src : List UInt8) (s d : ByteArray) (p : Option Addr) (l c : Nat) (w : World) (h : Live w N base F B f bs) (hg1 : w.cell? ⟨0, 0, none⟩ = some (.int .i64 2147483647)) (hs : SrcAt w N src s p l)
    (hl : bs.length ≤ 1000000000) (hwl2 : f.wid ≤ 100000000) (hwl : -100000000 ≤ f.wid) (hn : src.length ≤ 1048576) (hp : -1048576 ≤ f.prec ∨ f.precP = false) (hd : 17 ≤ d.size) :
    Calls Tryd.prog 55 #[.pointer (some ⟨F, 0, none⟩), .string s, .slice p l c, .string d] w fun e w' => e = .returned (.tuple #[]) ∧ Live w' N base F B f (bs ++ hexOut f d src) ∧ Below N w w' :=
  sbxK N base F B f bs src s d p l c w h hg1 (hs.toK h.lb (Nat.le_trans h.lf (Nat.le_of_lt h.hf))) hl hwl2 hwl hn hp hd
end Go.Proofs.YtcfllmebcfimeaaDoor.Fm
