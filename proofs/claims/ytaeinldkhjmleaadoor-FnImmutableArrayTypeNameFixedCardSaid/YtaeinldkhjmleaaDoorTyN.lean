/- The law FnImmutableArrayTypeNameFixed: its walk. -/
import Derived.Test.YtaeinldkhjmleaaDoorInts
import Derived.Deep.RegionHeld3
import Derived.BigRegion
import Derived.Deep.RegionLaw
namespace Go.Proofs.YtaeinldkhjmleaaDoor.Ob
open Go.ChangeShapes Go.WideShapes Go.ChangeAt Go.RowKit Go.Blk

def nmI : ByteArray := ⟨#[105, 109, 109, 117, 116, 97, 98, 108, 101, 45, 97, 114, 114, 97, 121]⟩
def nmA : ByteArray := ⟨#[97, 114, 114, 97, 121]⟩
theorem tnI (v : Value) (w : World) : Calls Tryd.prog 7 #[v] w fun e w' => e = .returned (.string ⟨#[105, 109, 109, 117, 116, 97, 98, 108, 101, 45, 97, 114, 114, 97, 121]⟩) ∧ w = w' := by
  go_enter Tryd.func7, Tryd.ntmps7
  go_wp2
  go_ret
  exact ⟨rfl, rfl⟩
theorem tnA (v : Value) (w : World) : Calls Tryd.prog 8 #[v] w fun e w' => e = .returned (.string ⟨#[97, 114, 114, 97, 121]⟩) ∧ w = w' := by
  go_enter Tryd.func8, Tryd.ntmps8
  go_wp2
  go_ret
  exact ⟨rfl, rfl⟩
theorem m_tna (a : Addr) (w : World) : (method 192 32 (.pointer (some a)) "TypeName").run Tryd.prog w = .ok (8, .pointer (some a)) w := by kernel_rfl
theorem ta_imm (a : Addr) (w : World) : (Instr.typeAssert (.iface 24 (.pointer (some a))) 35 24 true).run Tryd.prog w = .ok (.tuple #[.pointer (some a), .bool true]) w := by kernel_rfl

theorem own_of_blk {w : World} {base G : Nat} {vs : List Value} (h : Blk w G 35 vs) (hb : base ≤ G) (hl : vs.length ≤ maxLen) : w.ownsRow base 35 1 (.slice (some ⟨G, 0, none⟩) vs.length vs.length) vs.length vs :=
  ⟨by simp, .inr ⟨G, vs.length, vs.toArray, rfl, hb, h, Nat.le_refl _, hl, by simp, by simp⟩⟩
theorem alloc_keep {w : World} {p : Addr} {v : Value} (o : Obj) (h : w.cell? p = some v) : (w.alloc o).cell? p = some v :=
  (((Below.refl _ w).alloc (Nat.le_refl _) o).cell (World.block_lt_of_cell? w _ h)).trans h
theorem grown_keep {w w' : World} {G b : Nat} {n c : Nat} {v : Value} (hg : w.drew.grownBy w' (Value.slice (some ⟨G, 0, none⟩) n c).ownBlock) (hne : b ≠ G) (h : w.cell? ⟨b, 0, none⟩ = some v) : w'.cell? ⟨b, 0, none⟩ = some v :=
  (World.cell?_of_block (a := ⟨b, 0, none⟩) (hg.block b (World.block_lt_of_cell? w _ h) (by simp [Value.ownBlock]; omega))).trans h
/-- What the sum of two immutable arrays gives: an array. -/
def SumArr (N0 : Nat) (w : World) (e : Ending) (w' : World) : Prop := ∃ B', e = .returned (.tuple #[.iface 32 (.pointer (some ⟨B', 0, none⟩)), .nilIface]) ∧ Below N0 w w'

set_option maxRecDepth 100000 in
set_option maxHeartbeats 2000000 in
theorem binAdd (N0 B G B2 G2 : Nat) (bs ds : List Nat) (w : World) (hB : w.cell? ⟨B, 0, none⟩ = some (.slice (some ⟨G, 0, none⟩) bs.length bs.length)) (hB2 : w.cell? ⟨B2, 0, none⟩ = some (.slice (some ⟨G2, 0, none⟩) ds.length ds.length))
    (hG : Blk w G 35 (ifs bs)) (hG2 : Blk w G2 35 (ifs ds)) (hN : N0 ≤ G) (hBG : B ≠ G) (hB2G : B2 ≠ G) (hl : bs.length + ds.length ≤ 1048576) (h0 : 0 < ds.length) :
    Calls Tryd.prog 10 #[.pointer (some ⟨B, 0, none⟩), .int .i64 11, .iface 24 (.pointer (some ⟨B2, 0, none⟩))] w (SumArr N0 w) := by
  have ta := ta_imm
  obtain ⟨i3, hi, hz0, hz1, hz2⟩ := info_parts infoO
  have HI := Lib.hid hi
  have HI0 := Lib.hid hz0
  have HI1 := Lib.hid hz1
  have HI2 := Lib.hid hz2
  have hown : w.ownsRow N0 35 1 (.slice (some ⟨G, 0, none⟩) bs.length bs.length) bs.length (ifs bs) := by
    have h := own_of_blk hG hN (by rw [ifs_length]; unfold maxLen; omega)
    rwa [ifs_length] at h
  have HO := Lib.hid hown
  have HG2 := Lib.hid hG2
  have hGw := hG.lt
  have hBw := World.block_lt_of_cell? w _ hB
  have hB2w := World.block_lt_of_cell? w _ hB2
  have hmax : bs.length + ds.length ≤ maxLen := by unfold maxLen; omega
  have hN0 : N0 ≤ w.heap.size := by omega
  clear hi hz0 hz1 hz2 hG hG2 hown
  go_enter Tryd.func10, Tryd.ntmps10
  go_wp2
  have hnews : ∀ j u, (ifs ds)[j]? = some u → w.drew.cell? ((⟨G2, 0, none⟩ : Addr).add j) = some u := fun j u hj => by
    rw [Go.Fmt.addr_add0]
    exact (HG2.out.drew.cell? j).trans hj
  go_region_held3 (fun w' => w'.cell? ⟨B, 0, none⟩ = some (.slice (some ⟨G, 0, none⟩) bs.length bs.length) ∧ w'.cell? ⟨B2, 0, none⟩ = some (.slice (some ⟨G2, 0, none⟩) ds.length ds.length)) (first | exact ⟨hB, hB2⟩ | exact ⟨grown_keep hgrow5 hBG hB, grown_keep hgrow5 hB2G hB2⟩ | exact ⟨alloc_keep _ (grown_keep hgrow5 hBG hB), alloc_keep _ (grown_keep hgrow5 hB2G hB2)⟩)
    ((refine step_append_lies _ (by rfl) _ _ _ (by rfl) N0 35 i3 _ 1 16 Tryd.underlying25 HI.out HI0.out HI1.out HI2.out rfl (by omega) (.slice (some ⟨G, 0, none⟩) bs.length bs.length) bs.length (ifs bs) (by rfl) (HO.out.drew)
       ⟨G2, 0, none⟩ ds.length ds.length (ifs ds) (by rfl) (by rw [ifs_length, Nat.mul_one]) hnews (by intro u hu; obtain ⟨x, _, rfl⟩ := List.mem_map.1 hu; rfl) h0 hmax (by omega) hN0 w.heap.size rfl ?_; intro g5 cap5 w5 hown5 hgrow5 hat5 hlt5))
  all_goals
    have hb5 : Below N0 w w5 := ⟨hgrow5.os, hgrow5.tape, hgrow5.output, hgrow5.size, fun k hk => hgrow5.block k (by show k < w.heap.size; omega) (by simp [Value.ownBlock]; omega)⟩
    go_wp2
    go_ret2
    exact ⟨w5.heap.size, rfl, hb5.alloc (Nat.le_trans hN0 hb5.size) _⟩

set_option maxRecDepth 100000 in
set_option maxHeartbeats 2000000 in
theorem binAdd0 (N0 B G B2 G2 : Nat) (bs : List Nat) (w : World) (hB : w.cell? ⟨B, 0, none⟩ = some (.slice (some ⟨G, 0, none⟩) bs.length bs.length)) (hB2 : w.cell? ⟨B2, 0, none⟩ = some (.slice (some ⟨G2, 0, none⟩) 0 0)) (hN : N0 ≤ w.heap.size) :
    Calls Tryd.prog 10 #[.pointer (some ⟨B, 0, none⟩), .int .i64 11, .iface 24 (.pointer (some ⟨B2, 0, none⟩))] w (SumArr N0 w) := by
  have ta := ta_imm
  obtain ⟨i3, hi, hz0, hz1, hz2⟩ := info_parts infoO
  have HI := Lib.hid hi
  have HI1 := Lib.hid hz1
  clear hi hz0 hz1 hz2
  go_enter Tryd.func10, Tryd.ntmps10
  go_wp2
  go_region_held3 (fun w' => w'.cell? ⟨B, 0, none⟩ = some (.slice (some ⟨G, 0, none⟩) bs.length bs.length) ∧ w'.cell? ⟨B2, 0, none⟩ = some (.slice (some ⟨G2, 0, none⟩) 0 0)) (first | exact ⟨hB, hB2⟩ | exact ⟨alloc_keep _ hB, alloc_keep _ hB2⟩)
    ((refine step_append_room (by rfl) _ _ _ (by rfl) 35 i3 1 Tryd.underlying25 HI.out HI1.out G 0 bs.length bs.length (by rfl) ⟨G2, 0, none⟩ 0 0 [] (by rfl) (by rfl) (fun j u hj => by simp at hj) (fun u hu => by simp at hu) (by omega) (fun j hj => by simp at hj) ?_))
  all_goals
    go_wp2
    go_ret2
    have hd : Below N0 w (w.drew.setCells G bs.length []) := ⟨rfl, rfl, rfl, Nat.le_refl _, fun _ _ => rfl⟩
    exact ⟨w.heap.size, rfl, hd.alloc hN _⟩

theorem binSum (N0 B G B2 G2 : Nat) (bs ds : List Nat) (w : World) (hB : w.cell? ⟨B, 0, none⟩ = some (.slice (some ⟨G, 0, none⟩) bs.length bs.length)) (hB2 : w.cell? ⟨B2, 0, none⟩ = some (.slice (some ⟨G2, 0, none⟩) ds.length ds.length))
    (hG : Blk w G 35 (ifs bs)) (hG2 : Blk w G2 35 (ifs ds)) (hN : N0 ≤ G) (hBG : B ≠ G) (hB2G : B2 ≠ G) (hl : bs.length + ds.length ≤ 1048576) :
    Calls Tryd.prog 10 #[.pointer (some ⟨B, 0, none⟩), .int .i64 11, .iface 24 (.pointer (some ⟨B2, 0, none⟩))] w (SumArr N0 w) := by
  have hGw := hG.lt
  by_cases h0 : 0 < ds.length
  · exact binAdd N0 B G B2 G2 bs ds w hB hB2 hG hG2 hN hBG hB2G hl h0
  · obtain rfl : ds = [] := List.length_eq_zero_iff.1 (by omega)
    exact binAdd0 N0 B G B2 G2 bs w hB hB2 (by omega)

set_option maxHeartbeats 1000000 in
theorem guardTN (p q : Option Addr) (l c m d : Nat) (w : World) (hsz : l ≤ 140737488351232) (hsz2 : m ≤ 140737488351232) : Calls Tryd.prog 5 #[.slice p l c, .slice q m d] w fun e w' => e = .returned (.bool (decide (l + m ≤ 1048576))) ∧ w = w' := by
  by_cases h1 : l ≤ 1048576
  · by_cases h2 : m ≤ 1048576
    · by_cases h3 : l + m ≤ 1048576
      all_goals
        go_enter Tryd.func5, Tryd.ntmps5
        go_wp2
        go_ret
        exact ⟨by simp [h3], rfl⟩
    · go_enter Tryd.func5, Tryd.ntmps5
      go_wp2
      go_ret
      exact ⟨by simp; omega, rfl⟩
  · go_enter Tryd.func5, Tryd.ntmps5
    go_wp2
    go_ret
    exact ⟨by simp; omega, rfl⟩

set_option maxRecDepth 100000 in
set_option maxHeartbeats 4000000 in
theorem tnMain (p q : Option Addr) (c d : Nat) (xs ys : List Int) (w : World) (hx : RowI w p xs) (hy : RowI w q ys) (h1 : xs.length ≤ 65536) (h2 : ys.length ≤ 65536) :
    Calls Tryd.prog 3 #[.slice p xs.length c, .slice q ys.length d] w fun e w' => e = .returned (.bool true) ∧ Below w.heap.size w w' := by
  have HG : Hid (decide (xs.length + ys.length ≤ 1048576) = true) := Lib.hid (by simp; omega)
  have HX := Lib.hid hx
  have HY := Lib.hid hy
  have hm := m_tna
  have HC1 := Lib.hid (intObjects p c xs w hx (by omega))
  clear hx hy
  go_enter Tryd.func3, Tryd.ntmps3
  go_wp2_with (fail)
  refine (guardTN _ _ _ _ _ _ _ (by omega) (by omega)).mono ?_
  rintro e w' ⟨rfl, rfl⟩
  rw [HG.out]
  go_wp2_with (fail)
  refine HC1.out.mono ?_
  rintro e w1 ⟨G1, bs, rfl, hg1, hi1, hG1, hbs1, hb1⟩
  have hlb : bs.length = xs.length := hi1.1
  have hs1 := hb1.size
  obtain ⟨w2, hw2⟩ : ∃ w2, w2 = w1.alloc (.cells #[.slice (some ⟨G1, 0, none⟩) xs.length xs.length] 30) := ⟨_, rfl⟩
  have hb12 : Below w1.heap.size w1 w2 := by rw [hw2]; exact (Below.refl _ _).alloc (Nat.le_refl _) _
  have hB2 : w2.cell? ⟨w1.heap.size, 0, none⟩ = some (.slice (some ⟨G1, 0, none⟩) xs.length xs.length) := by rw [hw2]; exact (blk_alloc w1 [_] 30).cell? 0
  have hw2s : w2.heap.size = w1.heap.size + 1 := by rw [hw2]; simp
  have hbw2 : Below w.heap.size w w2 := hb1.trans (hb12.mono hs1)
  have HC2 := Lib.hid (intObjects q d ys w2 (HY.out.old hbw2) (by omega))
  have HF1 := Lib.hid (And.intro (hg1.old hb12) (And.intro (hi1.old hb12) (And.intro hB2 hbw2)))
  have hGw1 := hg1.lt
  have HW2 := Lib.hid hw2
  have HLB := Lib.hid hlb
  have HS2 := Lib.hid hw2s
  clear hw2 hg1 hi1 hbs1 hb1 hb12 hB2 hbw2 HC1 hlb hw2s
  go_wp2_with (fail)
  rw [← HW2.out]
  refine HC2.out.mono ?_
  rintro e w3 ⟨G2, ds, rfl, hg3, hi3, hG3, hbs3, hb3⟩
  have hld : ds.length = ys.length := hi3.1
  have hs3 := hb3.size
  obtain ⟨w4, hw4⟩ : ∃ w4, w4 = w3.alloc (.cells #[.slice (some ⟨G2, 0, none⟩) ys.length ys.length] 30) := ⟨_, rfl⟩
  have hb34 : Below w3.heap.size w3 w4 := by rw [hw4]; exact (Below.refl _ _).alloc (Nat.le_refl _) _
  have hB4 : w4.cell? ⟨w3.heap.size, 0, none⟩ = some (.slice (some ⟨G2, 0, none⟩) ys.length ys.length) := by rw [hw4]; exact (blk_alloc w3 [_] 30).cell? 0
  have hw4s : w4.heap.size = w3.heap.size + 1 := by rw [hw4]; simp
  have hb24 : Below w2.heap.size w2 w4 := hb3.trans (hb34.mono hs3)
  have HC3 := Lib.hid (intObjects p c xs w4 ((HX.out.old HF1.out.2.2.2).old (w' := w4) hb24) (by omega))
  have HF2 := Lib.hid (And.intro (hg3.old hb34) (And.intro hB4 hb24))
  have hGw3 := hg3.lt
  have HW4 := Lib.hid hw4
  have HLD := Lib.hid hld
  have HS4 := Lib.hid hw4s
  clear hw4 hg3 hi3 hbs3 hb3 hb34 hB4 hb24 HC2 hld hw4s
  go_wp2_with ((go_at_call 7; refine (tnI _ _).mono ?_; rintro e w' ⟨rfl, rfl⟩))
  rw [← HW4.out]
  refine HC3.out.mono ?_
  rintro e w5 ⟨G3, es, rfl, _, _, _, _, hb5⟩
  have hs5 := hb5.size
  have hb56 : Below w4.heap.size w4 (w5.alloc (.cells #[.slice (some ⟨G3, 0, none⟩) xs.length xs.length] 33)) := hb5.alloc hs5 _
  obtain ⟨w6, hw6⟩ : ∃ w6, w6 = w5.alloc (.cells #[.slice (some ⟨G3, 0, none⟩) xs.length xs.length] 33) := ⟨_, rfl⟩
  rw [← hw6] at hb56
  have hf1 := HF1.out
  have hf2 := HF2.out
  have hb26 : Below w2.heap.size w2 w6 := hf2.2.2.trans (hb56.mono hf2.2.2.size)
  have k1 := hf1.1.old hb26
  have k2 := hf1.2.1.old hb26
  have k3 := (hb26.cell (World.block_lt_of_cell? w2 _ hf1.2.2.1)).trans hf1.2.2.1
  have k4 := hf2.1.old hb56
  have k5 := (hb56.cell (World.block_lt_of_cell? w4 _ hf2.2.1)).trans hf2.2.1
  have HBW6 : Hid (Below w.heap.size w w6) := Lib.hid (hf1.2.2.2.trans (hb26.mono hf1.2.2.2.size))
  have HK := Lib.hid (And.intro k1 (And.intro k3 (And.intro k4 k5)))
  have HCP := Lib.hid (arrCopy w1.heap.size G1 xs.length bs xs w6 k3 (fun j hj => by rw [k1.cell?]; simp [ifs, List.getElem?_eq_getElem hj]) k2 (by omega))
  have HW6 := Lib.hid hw6
  have hsz2 := HS2.out
  have hsz4 := HS4.out
  have hne1 : w1.heap.size ≠ G1 := by omega
  have hne2 : w3.heap.size ≠ G1 := by omega
  clear hw6 hf1 hf2 hb26 k1 k2 k3 k4 k5 hb5 hb56 HC3 hs5 hsz2 hsz4
  go_wp2_with (first | (go_at_call 7; refine (tnI _ _).mono ?_; rintro e w' ⟨rfl, rfl⟩) | (go_at_call 8; refine (tnA _ _).mono ?_; rintro e w' ⟨rfl, rfl⟩))
  rw [← HW6.out]
  refine HCP.out.mono ?_
  rintro e w7 ⟨B7, q7, cap7, cs7, rfl, _, _, _, _, _, _, hb7⟩
  have hk := HK.out
  have HSUM := Lib.hid (binSum w.heap.size w1.heap.size G1 w3.heap.size G2 bs ds w7 (by rw [HLB.out]; exact (hb7.cell (World.block_lt_of_cell? w6 _ hk.2.1)).trans hk.2.1) (by rw [HLD.out]; exact (hb7.cell (World.block_lt_of_cell? w6 _ hk.2.2.2)).trans hk.2.2.2) (hk.1.old hb7) (hk.2.2.1.old hb7) hG1 hne1 hne2 (by rw [HLB.out, HLD.out]; omega))
  have HB7 : Hid (Below w.heap.size w w7) := Lib.hid (HBW6.out.trans (hb7.mono HBW6.out.size))
  clear hk hb7 HCP
  go_wp2_with ((go_at_call 8; refine (tnA _ _).mono ?_; rintro e w' ⟨rfl, rfl⟩))
  refine HSUM.out.mono ?_
  rintro e w8 ⟨B8, rfl, hb8⟩
  go_wp2_with (first | (go_at_call 7; refine (tnI _ _).mono ?_; rintro e w' ⟨rfl, rfl⟩) | (go_at_call 8; refine (tnA _ _).mono ?_; rintro e w' ⟨rfl, rfl⟩))
  go_ret
  exact ⟨rfl, HB7.out.trans hb8⟩

set_option maxHeartbeats 2000000 in
theorem tnLaw (p q : Option Addr) (c d : Nat) (xs ys : List Int) (w : World) (hx : RowI w p xs) (hy : RowI w q ys) (hs1 : xs.length ≤ 140737488351232) (hs2 : ys.length ≤ 140737488351232) :
    Calls Tryd.prog 3 #[.slice p xs.length c, .slice q ys.length d] w fun e w' => e = .returned (.bool true) ∧ Below w.heap.size w w' := by
  by_cases h0 : xs.length + ys.length ≤ 1048576
  · by_cases h1 : xs.length ≤ 65536
    · by_cases h2 : ys.length ≤ 65536
      · exact tnMain p q c d xs ys w hx hy h1 h2
      · have HG := Lib.hid (decide_eq_true h0)
        clear hx hy h0
        go_enter Tryd.func3, Tryd.ntmps3
        go_wp2_with (fail)
        refine (guardTN _ _ _ _ _ _ _ hs1 hs2).mono ?_
        rintro e w' ⟨rfl, rfl⟩
        rw [HG.out]
        go_wp2
        go_ret
        exact ⟨rfl, Below.refl _ _⟩
    · have HG := Lib.hid (decide_eq_true h0)
      clear hx hy h0
      go_enter Tryd.func3, Tryd.ntmps3
      go_wp2_with (fail)
      refine (guardTN _ _ _ _ _ _ _ hs1 hs2).mono ?_
      rintro e w' ⟨rfl, rfl⟩
      rw [HG.out]
      go_wp2
      go_ret
      exact ⟨rfl, Below.refl _ _⟩
  · have HG := Lib.hid (decide_eq_false h0)
    clear hx hy h0
    go_enter Tryd.func3, Tryd.ntmps3
    go_wp2_with (fail)
    refine (guardTN _ _ _ _ _ _ _ hs1 hs2).mono ?_
    rintro e w' ⟨rfl, rfl⟩
    rw [HG.out]
    go_wp2
    go_ret
    exact ⟨rfl, Below.refl _ _⟩
end Go.Proofs.YtaeinldkhjmleaaDoor.Ob
namespace Go.Proofs.YtaeinldkhjmleaaDoor
open Go.Proofs.YtaeinldkhjmleaaDoor.Ob
theorem fnImmutableArrayTypeNameFixed.walk (a0 : Option Addr) (len0 cap0 : Nat) (z0 : List Int) (a1 : Option Addr) (len1 cap1 : Nat) (z1 : List Int) (w : World) (w0 : LawFrame.IsRow .i64 8 w a0 len0 cap0 z0) (w1 : LawFrame.IsRow .i64 8 w a1 len1 cap1 z1) (_hL : laidMetH Tryd.prog Rows.fnImmutableArrayTypeNameFixedRow.laid w) :
    Calls Tryd.prog 3 #[.slice a0 len0 cap0, .slice a1 len1 cap1] w fun e w' => e = .returned (.bool true) ∧ RowKit.Below w.heap.size w w' := by
  obtain ⟨xs, hx, rfl, _, _, h1⟩ := rowI_of w0
  obtain ⟨ys, hy, rfl, _, _, h2⟩ := rowI_of w1
  exact tnLaw a0 a1 cap0 cap1 xs ys w hx hy (by omega) (by omega)
end Go.Proofs.YtaeinldkhjmleaaDoor
