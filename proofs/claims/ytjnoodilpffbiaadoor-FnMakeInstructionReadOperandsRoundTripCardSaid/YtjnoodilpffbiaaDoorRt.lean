/- The law FnMakeInstructionReadOperandsRoundTrip: its walk. -/
import Derived.Test.YtjnoodilpffbiaaDoorRd
namespace Go.Proofs.YtjnoodilpffbiaaDoor.Mk
open Go.ChangeShapes Go.WideShapes Go.ChangeAt Go.RowKit Go.Blk Go.Mk Go.LawFrame

theorem modW_le (z : Int) : 1 ≤ modW z ∧ modW z ≤ 4294967296 := by unfold modW; split <;> (try split) <;> omega
theorem add_zero_addr (a : Addr) : a.add 0 = a := by simp [Addr.add]
theorem add_one_addr (a : Addr) : a.add 1 = ⟨a.block, a.off + 1, none⟩ := by simp [Addr.add]
theorem own_cells {w : World} {base n cap : Nat} {e : TypeId} {p : Option Addr} {xs : List Int} (h : w.ownsRow base e 1 (.slice p n cap) n (ints xs)) : ∀ j (hj : j < xs.length), ∃ g, p = some ⟨g, 0, none⟩ ∧ w.cell? ⟨g, j, none⟩ = some (.int .i64 xs[j]) := by
  intro j hj
  obtain ⟨h0, ⟨h1, h1'⟩ | ⟨g', cap', cur, h1, h2, h3, h4, h5, h6, h7⟩⟩ := h
  · have h9 : xs.length = n * 1 := by simpa [ints] using h0
    omega
  · simp only [Value.slice.injEq] at h1
    obtain ⟨rfl, _, rfl⟩ := h1
    refine ⟨g', rfl, ?_⟩
    simp only [Nat.mul_one] at h6 h7
    have h8 : (ints xs)[j]? = some (.int .i64 xs[j]) := by simp [ints, List.getElem?_eq_getElem hj]
    rw [← h7, List.getElem?_take] at h8
    split at h8
    · rw [Array.getElem?_toList] at h8
      unfold World.cell?
      simp only [h3]
      simpa using h8
    · cases h8

set_option maxRecDepth 100000 in
set_option maxHeartbeats 8000000 in
theorem rt0 (op : Nat)  (a b : Int) (w : World) (hop : op < 42) (hr : RowIs w 0 op []) (hw : Widths []) (_hax : a ≤ 9223372036854775807) (_hbx : b ≤ 9223372036854775807) :
    Calls Tryd.prog 3 #[.int .u8 op, .int .i64 a, .int .i64 b] w fun e w' => e = .returned (.bool true) ∧ Below w.heap.size w w' := by
  have HR := Lib.hid hr
  obtain ⟨ad, cap, hc0, hcap, hcm, hrow⟩ := hr
  have HW := Lib.hid hw
  have HROW := Lib.hid hrow
  have hmk := make02
  simp only [List.length_nil] at hc0 hcap
  clear hrow hw
  have hcm' : (cap : Int) ≤ 9223372036854775807 := by unfold maxLen at hcm; omega
  obtain ⟨G, hG⟩ : ∃ G, G = (w.alloc (.cells #[.int .i64 0, .int .i64 0] 3)).heap.size := ⟨_, rfl⟩
  have hbW : Below w.heap.size w (w.alloc (.cells #[.int .i64 0, .int .i64 0] 3)) := (Below.refl _ _).alloc (Nat.le_refl _) _
  have hGw : w.heap.size < G := by rw [hG]; simp
  have hxc : ∀ j (hj : j < ([] : List Int).length), (w.alloc (.cells #[.int .i64 0, .int .i64 0] 3)).cell? ⟨w.heap.size, j, none⟩ = some (.int .i64 ([] : List Int)[j]) := by
    intro j hj
    have hB : Blk (w.alloc (.cells #[.int .i64 0, .int .i64 0] 3)) w.heap.size 3 [.int .i64 0, .int .i64 0] := (blk_alloc w [.int .i64 0, .int .i64 0] 3).old (Below.refl _ _)
    rw [hB.cell?]
    simp at hj
  obtain ⟨n, hn⟩ : ∃ n, n = (body [] []).length + 1 := ⟨_, rfl⟩
  have hbl := body_length [] [] HW.out.nonneg
  have hT := HW.out.take 0
  have hnt : tot [] = 0 := rfl
  obtain rfl : n = 1 := by simp [body] at hn; exact hn
  have hall : rdAll [] (body [] []) = [] := rdAll_body [] [] rfl HW.out.2 (fun j h _ => by simp at h)
  have hcall : Calls Tryd.prog 7 #[.int .u8 op, .slice (some ⟨w.heap.size, 0, none⟩) 0 2] (w.alloc (.cells #[.int .i64 0, .int .i64 0] 3)) fun e w' => e = .returned (.slice (some ⟨G, 0, none⟩) 1 1) ∧ Blk w' G 5 (bytes ((op : Int) :: body [] [])) ∧ Below G (w.alloc (.cells #[.int .i64 0, .int .i64 0] 3)) w' := by
    have h := makeInstr op [] [] w.heap.size 2 _ hop (HR.out.old hbW) HW.out hxc (Nat.le_refl _)
    rw [← hG] at h
    exact h
  have hread : ∀ w2, Below w.heap.size w w2 → Blk w2 G 5 (bytes ((op : Int) :: body [] [])) → Calls Tryd.prog 8 #[.slice (some ad) 0 cap, .slice (some ⟨G, 0, none⟩) 0 0] w2 fun e w' => ∃ p c, e = .returned (.tuple #[.slice p 0 c, .int .i64 0]) ∧ (∀ j (hj : j < ([] : List Int).length), ∃ g, p = some ⟨g, 0, none⟩ ∧ w'.cell? ⟨g, j, none⟩ = some (.int .i64 ([] : List Int)[j])) ∧ Below w2.heap.size w2 w' := by
    intro w2 hb2 hblk
    refine (readOps ad G 0 [] (body [] []) cap 0 0 w2 (fun j hj => (hb2.cell (World.block_lt_of_cell? w _ (HROW.out j hj))).trans (HROW.out j hj)) HW.out (fun j hj => ?_) (body_byte _ _) (by omega) (by omega) (by omega)).mono ?_
    · exact absurd hj (by simp [body])
    · rintro e w' ⟨v, rfl, h1, h2⟩
      obtain ⟨p, c, rfl, _, _⟩ := Go.Fmt.ownsRow_form h1
      rw [hall] at h1
      exact ⟨p, c, by rw [hnt]; rfl, own_cells h1, h2⟩
  have HC := Lib.hid hcall
  have HRD := Lib.hid hread
  have HXC := Lib.hid hxc
  have HBW := Lib.hid hbW
  clear hcall hread hxc hbW hG hn hbl hT hnt hall
  go_enter Tryd.func3, Tryd.ntmps3
  go_wp2
  go_loop [9] (fun i => i = .int .i64 0) (fun _ => 0)
  case atStart => rfl
  case round =>
    obtain rfl := hrel
    · skip
      go_wp2_with (fail)
      refine HC.out.mono ?_
      rintro e w2 ⟨rfl, hblk, hb2⟩
      have HBK := Lib.hid hblk
      have hB2 : Below w.heap.size w w2 := HBW.out.trans (hb2.mono (by omega))
      have HB2 := Lib.hid hB2
      have HXC2 : Hid (∀ j (hj : j < ([] : List Int).length), w2.cell? ⟨w.heap.size, j, none⟩ = some (.int .i64 ([] : List Int)[j])) := Lib.hid (fun j hj => (hb2.cell hGw).trans (HXC.out j hj))
      have q0 : w2.cell? ⟨G, 0, none⟩ = some (.int .u8 op) := hblk.cell? 0
      have HRD2 := Lib.hid (HRD.out w2 hB2 hblk)
      clear hblk hb2 HC hB2
      go_wp2_with (fail)
      refine HRD2.out.mono ?_
      rintro e w3 ⟨p, c, rfl, hgot, hb3⟩
      have HGOT := Lib.hid hgot
      have HXC3 : Hid (∀ j (hj : j < ([] : List Int).length), w3.cell? ⟨w.heap.size, j, none⟩ = some (.int .i64 ([] : List Int)[j])) := Lib.hid (fun j hj => (hb3.cell (World.block_lt_of_cell? w2 _ (HXC2.out j hj))).trans (HXC2.out j hj))
      have HB3 : Hid (Below w.heap.size w w3) := Lib.hid (HB2.out.trans (hb3.mono HB2.out.size))
      clear hgot hb3 HRD2 q0
      go_wp2
      go_loopw [14] (fun iv wr => ∃ j : Nat, j ≤ 0 ∧ iv = .int .i64 j ∧ Hid (Below w3.heap.size w3 wr)) (fun iv _ => 0 - (intOf iv).toNat)
      case atStart => exact ⟨0, Nat.zero_le _, rfl, Lib.hid (Below.refl _ _)⟩
      case round =>
        obtain ⟨j, hj, rfl, HBR⟩ := hrel
        obtain ⟨wo, hwo⟩ : ∃ wo : World, wo = wr := ⟨_, rfl⟩
        subst hwo
        by_cases hlt : j < 0
        · exact absurd hlt (by omega)
        · obtain rfl : j = 0 := by omega
          go_wp2
          go_ret
          exact ⟨rfl, HB3.out.trans (HBR.out.mono HB3.out.size)⟩

set_option maxRecDepth 100000 in
set_option maxHeartbeats 8000000 in
theorem rt1 (op : Nat) (z0 : Int) (a b : Int) (w : World) (hop : op < 42) (hr : RowIs w 0 op [z0]) (hw : Widths [z0]) (ha0 : 0 ≤ a) (ha1 : a < modW z0) (_hax : a ≤ 9223372036854775807) (_hbx : b ≤ 9223372036854775807) :
    Calls Tryd.prog 3 #[.int .u8 op, .int .i64 a, .int .i64 b] w fun e w' => e = .returned (.bool true) ∧ Below w.heap.size w w' := by
  have HR := Lib.hid hr
  obtain ⟨ad, cap, hc0, hcap, hcm, hrow⟩ := hr
  have HW := Lib.hid hw
  have HROW := Lib.hid hrow
  have hmk := make02
  simp only [List.length_cons, List.length_nil, Nat.zero_add] at hc0 hcap
  have hr0 : w.cell? ad = some (.int .i64 z0) := by have := hrow 0 (by simp); rw [add_zero_addr] at this; exact this
  have hz0 := hw.2 z0 (by simp)
  have HZ0 := Lib.hid hz0
  have hm0 := modW_le z0
  clear hz0
  clear hrow hw
  have hcm' : (cap : Int) ≤ 9223372036854775807 := by unfold maxLen at hcm; omega
  obtain ⟨G, hG⟩ : ∃ G, G = ((w.alloc (.cells #[.int .i64 a, .int .i64 0] 3)).alloc (.cells #[.int .i64 a] 3)).heap.size := ⟨_, rfl⟩
  have hbW : Below w.heap.size w ((w.alloc (.cells #[.int .i64 a, .int .i64 0] 3)).alloc (.cells #[.int .i64 a] 3)) := ((Below.refl _ _).alloc (Nat.le_refl _) _).alloc (by simp) _
  have hGw : w.heap.size < G := by rw [hG]; simp; omega
  have hxc : ∀ j (hj : j < ([a] : List Int).length), ((w.alloc (.cells #[.int .i64 a, .int .i64 0] 3)).alloc (.cells #[.int .i64 a] 3)).cell? ⟨w.heap.size, j, none⟩ = some (.int .i64 ([a] : List Int)[j]) := by
    intro j hj
    have hB : Blk ((w.alloc (.cells #[.int .i64 a, .int .i64 0] 3)).alloc (.cells #[.int .i64 a] 3)) w.heap.size 3 [.int .i64 a, .int .i64 0] := (blk_alloc w [.int .i64 a, .int .i64 0] 3).old ((Below.refl _ _).alloc (Nat.le_refl _) _)
    rw [hB.cell?]
    obtain rfl : j = 0 := by simp at hj; omega
    rfl
  obtain ⟨n, hn⟩ : ∃ n, n = (body [z0] [a]).length + 1 := ⟨_, rfl⟩
  have hbl := body_length [z0] [a] HW.out.nonneg
  have hT := HW.out.take 1
  have hnt : tot [z0] = (n : Int) - 1 := by omega
  have hn9 : n ≤ 9 := by have : tot [z0] ≤ 8 := (by simpa using hT.2); omega
  have hn2 : 2 ≤ n := by
    have h1 := hbl
    have h2 := HW.out.2 z0 (by simp)
    simp only [tot] at h1
    omega
  have hall : rdAll [z0] (body [z0] [a]) = [a] := rdAll_body [z0] [a] rfl HW.out.2 (fun j h _ => by obtain rfl : j = 0 := (by simp at h; omega); exact ⟨ha0, ha1⟩)
  have hcall : Calls Tryd.prog 7 #[.int .u8 op, .slice (some ⟨w.heap.size, 0, none⟩) 1 2] ((w.alloc (.cells #[.int .i64 a, .int .i64 0] 3)).alloc (.cells #[.int .i64 a] 3)) fun e w' => e = .returned (.slice (some ⟨G, 0, none⟩) n n) ∧ Blk w' G 5 (bytes ((op : Int) :: body [z0] [a])) ∧ Below G ((w.alloc (.cells #[.int .i64 a, .int .i64 0] 3)).alloc (.cells #[.int .i64 a] 3)) w' := by
    have h := makeInstr op [z0] [a] w.heap.size 2 _ hop (HR.out.old hbW) HW.out hxc (Nat.le_refl _)
    rw [← hG, ← hn] at h
    exact h
  have hread : ∀ w2, Below w.heap.size w w2 → Blk w2 G 5 (bytes ((op : Int) :: body [z0] [a])) → Calls Tryd.prog 8 #[.slice (some ad) 1 cap, .slice (some ⟨G, 1, none⟩) (n - 1) (n - 1)] w2 fun e w' => ∃ p c, e = .returned (.tuple #[.slice p 1 c, .int .i64 ((n : Int) - 1)]) ∧ (∀ j (hj : j < ([a] : List Int).length), ∃ g, p = some ⟨g, 0, none⟩ ∧ w'.cell? ⟨g, j, none⟩ = some (.int .i64 ([a] : List Int)[j])) ∧ Below w2.heap.size w2 w' := by
    intro w2 hb2 hblk
    refine (readOps ad G 1 [z0] (body [z0] [a]) cap (n - 1) (n - 1) w2 (fun j hj => (hb2.cell (World.block_lt_of_cell? w _ (HROW.out j hj))).trans (HROW.out j hj)) HW.out (fun j hj => ?_) (body_byte _ _) (by omega) (by omega) (by omega)).mono ?_
    · rw [hblk.cell?, Nat.add_comm 1 j]
      simp [bytes] at hj ⊢
    · rintro e w' ⟨v, rfl, h1, h2⟩
      obtain ⟨p, c, rfl, _, _⟩ := Go.Fmt.ownsRow_form h1
      rw [hall] at h1
      exact ⟨p, c, by rw [hnt]; rfl, own_cells h1, h2⟩
  have HC := Lib.hid hcall
  have HRD := Lib.hid hread
  have HXC := Lib.hid hxc
  have HBW := Lib.hid hbW
  clear hcall hread hxc hbW hG hn hbl hT hnt hall
  go_enter Tryd.func3, Tryd.ntmps3
  go_wp2
  go_loop [9] (fun i => ∃ k : Nat, k ≤ 1 ∧ i = .int .i64 k) (fun i => 1 - (intOf i).toNat)
  case atStart => exact ⟨0, Nat.zero_le _, rfl⟩
  case round =>
    obtain ⟨j, hj, rfl⟩ := hrel
    by_cases hlt : j < 1
    · have hck := HROW.out j (by simpa using hlt)
      have hzj := HW.out.2 ([z0][j]'(by simpa using hlt)) (List.getElem_mem _)
      generalize ([z0][j]'(by simpa using hlt)) = z at *
      have HZ := Lib.hid hzj
      clear hzj hr0
      go_wp2_with ((go_at_call 5; refine (widthOK _ _ HZ.out).mono ?_; rintro e w' ⟨rfl, rfl⟩))
      go_round
      case rel => exact ⟨j + 1, hlt, by go_num⟩
      case measure => simp [intOf]; omega
    · obtain rfl : j = 1 := by omega
      go_wp2_with ((go_at_call 6; first | ((with_reducible refine (zzMod _ _ HZ0.out).mono ?_); rintro e w' ⟨rfl, rfl⟩)))
      refine HC.out.mono ?_
      rintro e w2 ⟨rfl, hblk, hb2⟩
      have HBK := Lib.hid hblk
      have hB2 : Below w.heap.size w w2 := HBW.out.trans (hb2.mono (by omega))
      have HB2 := Lib.hid hB2
      have HXC2 : Hid (∀ j (hj : j < ([a] : List Int).length), w2.cell? ⟨w.heap.size, j, none⟩ = some (.int .i64 ([a] : List Int)[j])) := Lib.hid (fun j hj => (hb2.cell hGw).trans (HXC.out j hj))
      have q0 : w2.cell? ⟨G, 0, none⟩ = some (.int .u8 op) := hblk.cell? 0
      have HRD2 := Lib.hid (HRD.out w2 hB2 hblk)
      clear hblk hb2 HC hB2
      go_wp2_with (fail)
      refine HRD2.out.mono ?_
      rintro e w3 ⟨p, c, rfl, hgot, hb3⟩
      have HGOT := Lib.hid hgot
      have HXC3 : Hid (∀ j (hj : j < ([a] : List Int).length), w3.cell? ⟨w.heap.size, j, none⟩ = some (.int .i64 ([a] : List Int)[j])) := Lib.hid (fun j hj => (hb3.cell (World.block_lt_of_cell? w2 _ (HXC2.out j hj))).trans (HXC2.out j hj))
      have HB3 : Hid (Below w.heap.size w w3) := Lib.hid (HB2.out.trans (hb3.mono HB2.out.size))
      clear hgot hb3 HRD2 q0
      go_wp2
      go_loopw [14] (fun iv wr => ∃ j : Nat, j ≤ 1 ∧ iv = .int .i64 j ∧ Hid (Below w3.heap.size w3 wr)) (fun iv _ => 1 - (intOf iv).toNat)
      case atStart => exact ⟨0, Nat.zero_le _, rfl, Lib.hid (Below.refl _ _)⟩
      case round =>
        obtain ⟨j, hj, rfl, HBR⟩ := hrel
        obtain ⟨wo, hwo⟩ : ∃ wo : World, wo = wr := ⟨_, rfl⟩
        subst hwo
        by_cases hlt : j < 1
        · have hjx : j < ([a] : List Int).length := by simpa using hlt
          obtain ⟨g, rfl, hg0⟩ := HGOT.out j hjx
          have hg1 := (HBR.out.cell (World.block_lt_of_cell? w3 _ hg0)).trans hg0
          have hx1 := (HBR.out.cell (World.block_lt_of_cell? w3 _ (HXC3.out j hjx))).trans (HXC3.out j hjx)
          clear hg0
          generalize ([a] : List Int)[j] = x at *
          have s1 : (0 : Int) ≤ (j : Int) := by omega
          have s2 : (j : Int) < 1 := by omega
          go_wp2
          go_quiet (fail)
          go_wp2
          go_roundw
          case rel => exact ⟨j + 1, hlt, by go_num, Lib.hid ⟨HBR.out.os, HBR.out.tape, HBR.out.output, HBR.out.size, HBR.out.block⟩⟩
          case measure => simp [intOf]; omega
        · obtain rfl : j = 1 := by omega
          go_wp2
          go_ret
          exact ⟨rfl, HB3.out.trans (HBR.out.mono HB3.out.size)⟩

set_option maxRecDepth 100000 in
set_option maxHeartbeats 8000000 in
theorem rt2 (op : Nat) (z0 : Int) (z1 : Int) (a b : Int) (w : World) (hop : op < 42) (hr : RowIs w 0 op [z0, z1]) (hw : Widths [z0, z1]) (ha0 : 0 ≤ a) (ha1 : a < modW z0) (hb0 : 0 ≤ b) (hb1 : b < modW z1) (_hax : a ≤ 9223372036854775807) (_hbx : b ≤ 9223372036854775807) :
    Calls Tryd.prog 3 #[.int .u8 op, .int .i64 a, .int .i64 b] w fun e w' => e = .returned (.bool true) ∧ Below w.heap.size w w' := by
  have HR := Lib.hid hr
  obtain ⟨ad, cap, hc0, hcap, hcm, hrow⟩ := hr
  have HW := Lib.hid hw
  have HROW := Lib.hid hrow
  have hmk := make02
  simp only [List.length_cons, List.length_nil, Nat.zero_add, Nat.reduceAdd] at hc0 hcap
  have hr0 : w.cell? ad = some (.int .i64 z0) := by have := hrow 0 (by simp); rw [add_zero_addr] at this; exact this
  have hz0 := hw.2 z0 (by simp)
  have HZ0 := Lib.hid hz0
  have hm0 := modW_le z0
  clear hz0
  have hr1 : w.cell? ⟨ad.block, ad.off + 1, none⟩ = some (.int .i64 z1) := by have := hrow 1 (by simp); rw [add_one_addr] at this; exact this
  have hz1 := hw.2 z1 (by simp)
  have HZ1 := Lib.hid hz1
  have hm1 := modW_le z1
  clear hz1
  clear hrow hw
  have hcm' : (cap : Int) ≤ 9223372036854775807 := by unfold maxLen at hcm; omega
  obtain ⟨G, hG⟩ : ∃ G, G = (((w.alloc (.cells #[.int .i64 a, .int .i64 b] 3)).alloc (.cells #[.int .i64 a] 3)).alloc (.cells #[.int .i64 b] 3)).heap.size := ⟨_, rfl⟩
  have hbW : Below w.heap.size w (((w.alloc (.cells #[.int .i64 a, .int .i64 b] 3)).alloc (.cells #[.int .i64 a] 3)).alloc (.cells #[.int .i64 b] 3)) := (((Below.refl _ _).alloc (Nat.le_refl _) _).alloc (by simp) _).alloc (by simp; omega) _
  have hGw : w.heap.size < G := by rw [hG]; simp; omega
  have hxc : ∀ j (hj : j < ([a, b] : List Int).length), (((w.alloc (.cells #[.int .i64 a, .int .i64 b] 3)).alloc (.cells #[.int .i64 a] 3)).alloc (.cells #[.int .i64 b] 3)).cell? ⟨w.heap.size, j, none⟩ = some (.int .i64 ([a, b] : List Int)[j]) := by
    intro j hj
    have hB : Blk (((w.alloc (.cells #[.int .i64 a, .int .i64 b] 3)).alloc (.cells #[.int .i64 a] 3)).alloc (.cells #[.int .i64 b] 3)) w.heap.size 3 [.int .i64 a, .int .i64 b] := (blk_alloc w [.int .i64 a, .int .i64 b] 3).old (((Below.refl _ _).alloc (Nat.le_refl _) _).alloc (by simp) _)
    rw [hB.cell?]
    rcases (show j = 0 ∨ j = 1 by simp at hj; omega) with rfl | rfl <;> rfl
  obtain ⟨n, hn⟩ : ∃ n, n = (body [z0, z1] [a, b]).length + 1 := ⟨_, rfl⟩
  have hbl := body_length [z0, z1] [a, b] HW.out.nonneg
  have hT := HW.out.take 2
  have hnt : tot [z0, z1] = (n : Int) - 1 := by omega
  have hn9 : n ≤ 9 := by have : tot [z0, z1] ≤ 8 := (by simpa using hT.2); omega
  have hn2 : 2 ≤ n := by
    have h1 := hbl
    have h2 := HW.out.2 z0 (by simp)
    have h3 := HW.out.2 z1 (by simp)
    simp only [tot] at h1
    omega
  have hall : rdAll [z0, z1] (body [z0, z1] [a, b]) = [a, b] := rdAll_body [z0, z1] [a, b] rfl HW.out.2 (fun j h _ => by rcases (show j = 0 ∨ j = 1 by simp at h; omega) with rfl | rfl <;> first | exact ⟨ha0, ha1⟩ | exact ⟨hb0, hb1⟩)
  have hcall : Calls Tryd.prog 7 #[.int .u8 op, .slice (some ⟨w.heap.size, 0, none⟩) 2 2] (((w.alloc (.cells #[.int .i64 a, .int .i64 b] 3)).alloc (.cells #[.int .i64 a] 3)).alloc (.cells #[.int .i64 b] 3)) fun e w' => e = .returned (.slice (some ⟨G, 0, none⟩) n n) ∧ Blk w' G 5 (bytes ((op : Int) :: body [z0, z1] [a, b])) ∧ Below G (((w.alloc (.cells #[.int .i64 a, .int .i64 b] 3)).alloc (.cells #[.int .i64 a] 3)).alloc (.cells #[.int .i64 b] 3)) w' := by
    have h := makeInstr op [z0, z1] [a, b] w.heap.size 2 _ hop (HR.out.old hbW) HW.out hxc (Nat.le_refl _)
    rw [← hG, ← hn] at h
    exact h
  have hread : ∀ w2, Below w.heap.size w w2 → Blk w2 G 5 (bytes ((op : Int) :: body [z0, z1] [a, b])) → Calls Tryd.prog 8 #[.slice (some ad) 2 cap, .slice (some ⟨G, 1, none⟩) (n - 1) (n - 1)] w2 fun e w' => ∃ p c, e = .returned (.tuple #[.slice p 2 c, .int .i64 ((n : Int) - 1)]) ∧ (∀ j (hj : j < ([a, b] : List Int).length), ∃ g, p = some ⟨g, 0, none⟩ ∧ w'.cell? ⟨g, j, none⟩ = some (.int .i64 ([a, b] : List Int)[j])) ∧ Below w2.heap.size w2 w' := by
    intro w2 hb2 hblk
    refine (readOps ad G 1 [z0, z1] (body [z0, z1] [a, b]) cap (n - 1) (n - 1) w2 (fun j hj => (hb2.cell (World.block_lt_of_cell? w _ (HROW.out j hj))).trans (HROW.out j hj)) HW.out (fun j hj => ?_) (body_byte _ _) (by omega) (by omega) (by omega)).mono ?_
    · rw [hblk.cell?, Nat.add_comm 1 j]
      simp [bytes] at hj ⊢
    · rintro e w' ⟨v, rfl, h1, h2⟩
      obtain ⟨p, c, rfl, _, _⟩ := Go.Fmt.ownsRow_form h1
      rw [hall] at h1
      exact ⟨p, c, by rw [hnt]; rfl, own_cells h1, h2⟩
  have HC := Lib.hid hcall
  have HRD := Lib.hid hread
  have HXC := Lib.hid hxc
  have HBW := Lib.hid hbW
  clear hcall hread hxc hbW hG hn hbl hT hnt hall
  go_enter Tryd.func3, Tryd.ntmps3
  go_wp2
  go_loop [9] (fun i => ∃ k : Nat, k ≤ 2 ∧ i = .int .i64 k) (fun i => 2 - (intOf i).toNat)
  case atStart => exact ⟨0, Nat.zero_le _, rfl⟩
  case round =>
    obtain ⟨j, hj, rfl⟩ := hrel
    by_cases hlt : j < 2
    · have hck := HROW.out j (by simpa using hlt)
      have hzj := HW.out.2 ([z0, z1][j]'(by simpa using hlt)) (List.getElem_mem _)
      generalize ([z0, z1][j]'(by simpa using hlt)) = z at *
      have HZ := Lib.hid hzj
      clear hzj hr0 hr1
      go_wp2_with ((go_at_call 5; refine (widthOK _ _ HZ.out).mono ?_; rintro e w' ⟨rfl, rfl⟩))
      go_round
      case rel => exact ⟨j + 1, hlt, by go_num⟩
      case measure => simp [intOf]; omega
    · obtain rfl : j = 2 := by omega
      go_wp2_with ((go_at_call 6; first | ((with_reducible refine (zzMod _ _ HZ0.out).mono ?_); rintro e w' ⟨rfl, rfl⟩) | ((with_reducible refine (zzMod _ _ HZ1.out).mono ?_); rintro e w' ⟨rfl, rfl⟩)))
      refine HC.out.mono ?_
      rintro e w2 ⟨rfl, hblk, hb2⟩
      have HBK := Lib.hid hblk
      have hB2 : Below w.heap.size w w2 := HBW.out.trans (hb2.mono (by omega))
      have HB2 := Lib.hid hB2
      have HXC2 : Hid (∀ j (hj : j < ([a, b] : List Int).length), w2.cell? ⟨w.heap.size, j, none⟩ = some (.int .i64 ([a, b] : List Int)[j])) := Lib.hid (fun j hj => (hb2.cell hGw).trans (HXC.out j hj))
      have q0 : w2.cell? ⟨G, 0, none⟩ = some (.int .u8 op) := hblk.cell? 0
      have HRD2 := Lib.hid (HRD.out w2 hB2 hblk)
      clear hblk hb2 HC hB2
      go_wp2_with (fail)
      refine HRD2.out.mono ?_
      rintro e w3 ⟨p, c, rfl, hgot, hb3⟩
      have HGOT := Lib.hid hgot
      have HXC3 : Hid (∀ j (hj : j < ([a, b] : List Int).length), w3.cell? ⟨w.heap.size, j, none⟩ = some (.int .i64 ([a, b] : List Int)[j])) := Lib.hid (fun j hj => (hb3.cell (World.block_lt_of_cell? w2 _ (HXC2.out j hj))).trans (HXC2.out j hj))
      have HB3 : Hid (Below w.heap.size w w3) := Lib.hid (HB2.out.trans (hb3.mono HB2.out.size))
      clear hgot hb3 HRD2 q0
      go_wp2
      go_loopw [14] (fun iv wr => ∃ j : Nat, j ≤ 2 ∧ iv = .int .i64 j ∧ Hid (Below w3.heap.size w3 wr)) (fun iv _ => 2 - (intOf iv).toNat)
      case atStart => exact ⟨0, Nat.zero_le _, rfl, Lib.hid (Below.refl _ _)⟩
      case round =>
        obtain ⟨j, hj, rfl, HBR⟩ := hrel
        obtain ⟨wo, hwo⟩ : ∃ wo : World, wo = wr := ⟨_, rfl⟩
        subst hwo
        by_cases hlt : j < 2
        · have hjx : j < ([a, b] : List Int).length := by simpa using hlt
          obtain ⟨g, rfl, hg0⟩ := HGOT.out j hjx
          have hg1 := (HBR.out.cell (World.block_lt_of_cell? w3 _ hg0)).trans hg0
          have hx1 := (HBR.out.cell (World.block_lt_of_cell? w3 _ (HXC3.out j hjx))).trans (HXC3.out j hjx)
          clear hg0
          generalize ([a, b] : List Int)[j] = x at *
          have s1 : (0 : Int) ≤ (j : Int) := by omega
          have s2 : (j : Int) < 2 := by omega
          go_wp2
          go_quiet (fail)
          go_wp2
          go_roundw
          case rel => exact ⟨j + 1, hlt, by go_num, Lib.hid ⟨HBR.out.os, HBR.out.tape, HBR.out.output, HBR.out.size, HBR.out.block⟩⟩
          case measure => simp [intOf]; omega
        · obtain rfl : j = 2 := by omega
          go_wp2
          go_ret
          exact ⟨rfl, HB3.out.trans (HBR.out.mono HB3.out.size)⟩

set_option maxRecDepth 100000 in
set_option maxHeartbeats 8000000 in
theorem rtE1 (op : Nat) (z0 : Int) (a b : Int) (w : World) (hop : op < 42) (hr : RowIs w 0 op [z0]) (hw : Widths [z0]) (ha0 : a < 0) (_hax : a ≤ 9223372036854775807) (_hbx : b ≤ 9223372036854775807) :
    Calls Tryd.prog 3 #[.int .u8 op, .int .i64 a, .int .i64 b] w fun e w' => e = .returned (.bool true) ∧ Below w.heap.size w w' := by
  have HR := Lib.hid hr
  obtain ⟨ad, cap, hc0, hcap, hcm, hrow⟩ := hr
  have HW := Lib.hid hw
  have HROW := Lib.hid hrow
  have hmk := make02
  simp only [List.length_cons, List.length_nil, Nat.zero_add] at hc0 hcap
  have hr0 : w.cell? ad = some (.int .i64 z0) := by have := hrow 0 (by simp); rw [add_zero_addr] at this; exact this
  have hz0 := hw.2 z0 (by simp)
  have HZ0 := Lib.hid hz0
  have hm0 := modW_le z0
  clear hz0
  clear hrow hw
  have hcm' : (cap : Int) ≤ 9223372036854775807 := by unfold maxLen at hcm; omega
  go_enter Tryd.func3, Tryd.ntmps3
  go_wp2
  go_loop [9] (fun i => ∃ k : Nat, k ≤ 1 ∧ i = .int .i64 k) (fun i => 1 - (intOf i).toNat)
  case atStart => exact ⟨0, Nat.zero_le _, rfl⟩
  case round =>
    obtain ⟨j, hj, rfl⟩ := hrel
    by_cases hlt : j < 1
    · have hck := HROW.out j (by simpa using hlt)
      have hzj := HW.out.2 ([z0][j]'(by simpa using hlt)) (List.getElem_mem _)
      generalize ([z0][j]'(by simpa using hlt)) = z at *
      have HZ := Lib.hid hzj
      clear hzj hr0
      go_wp2_with ((go_at_call 5; refine (widthOK _ _ HZ.out).mono ?_; rintro e w' ⟨rfl, rfl⟩))
      go_round
      case rel => exact ⟨j + 1, hlt, by go_num⟩
      case measure => simp [intOf]; omega
    · obtain rfl : j = 1 := by omega
      go_wp2_with ((go_at_call 6; first | ((with_reducible refine (zzMod _ _ HZ0.out).mono ?_); rintro e w' ⟨rfl, rfl⟩)))
      go_ret
      exact ⟨rfl, Below.refl _ _⟩

set_option maxRecDepth 100000 in
set_option maxHeartbeats 8000000 in
theorem rtE2 (op : Nat) (z0 : Int) (a b : Int) (w : World) (hop : op < 42) (hr : RowIs w 0 op [z0]) (hw : Widths [z0]) (ha0 : 0 ≤ a) (ha1 : modW z0 ≤ a) (_hax : a ≤ 9223372036854775807) (_hbx : b ≤ 9223372036854775807) :
    Calls Tryd.prog 3 #[.int .u8 op, .int .i64 a, .int .i64 b] w fun e w' => e = .returned (.bool true) ∧ Below w.heap.size w w' := by
  have HR := Lib.hid hr
  obtain ⟨ad, cap, hc0, hcap, hcm, hrow⟩ := hr
  have HW := Lib.hid hw
  have HROW := Lib.hid hrow
  have hmk := make02
  simp only [List.length_cons, List.length_nil, Nat.zero_add] at hc0 hcap
  have hr0 : w.cell? ad = some (.int .i64 z0) := by have := hrow 0 (by simp); rw [add_zero_addr] at this; exact this
  have hz0 := hw.2 z0 (by simp)
  have HZ0 := Lib.hid hz0
  have hm0 := modW_le z0
  clear hz0
  clear hrow hw
  have hcm' : (cap : Int) ≤ 9223372036854775807 := by unfold maxLen at hcm; omega
  go_enter Tryd.func3, Tryd.ntmps3
  go_wp2
  go_loop [9] (fun i => ∃ k : Nat, k ≤ 1 ∧ i = .int .i64 k) (fun i => 1 - (intOf i).toNat)
  case atStart => exact ⟨0, Nat.zero_le _, rfl⟩
  case round =>
    obtain ⟨j, hj, rfl⟩ := hrel
    by_cases hlt : j < 1
    · have hck := HROW.out j (by simpa using hlt)
      have hzj := HW.out.2 ([z0][j]'(by simpa using hlt)) (List.getElem_mem _)
      generalize ([z0][j]'(by simpa using hlt)) = z at *
      have HZ := Lib.hid hzj
      clear hzj hr0
      go_wp2_with ((go_at_call 5; refine (widthOK _ _ HZ.out).mono ?_; rintro e w' ⟨rfl, rfl⟩))
      go_round
      case rel => exact ⟨j + 1, hlt, by go_num⟩
      case measure => simp [intOf]; omega
    · obtain rfl : j = 1 := by omega
      go_wp2_with ((go_at_call 6; first | ((with_reducible refine (zzMod _ _ HZ0.out).mono ?_); rintro e w' ⟨rfl, rfl⟩)))
      go_ret
      exact ⟨rfl, Below.refl _ _⟩

set_option maxRecDepth 100000 in
set_option maxHeartbeats 8000000 in
theorem rtE3 (op : Nat) (z0 : Int) (z1 : Int) (a b : Int) (w : World) (hop : op < 42) (hr : RowIs w 0 op [z0, z1]) (hw : Widths [z0, z1]) (ha0 : a < 0) (_hax : a ≤ 9223372036854775807) (_hbx : b ≤ 9223372036854775807) :
    Calls Tryd.prog 3 #[.int .u8 op, .int .i64 a, .int .i64 b] w fun e w' => e = .returned (.bool true) ∧ Below w.heap.size w w' := by
  have HR := Lib.hid hr
  obtain ⟨ad, cap, hc0, hcap, hcm, hrow⟩ := hr
  have HW := Lib.hid hw
  have HROW := Lib.hid hrow
  have hmk := make02
  simp only [List.length_cons, List.length_nil, Nat.zero_add, Nat.reduceAdd] at hc0 hcap
  have hr0 : w.cell? ad = some (.int .i64 z0) := by have := hrow 0 (by simp); rw [add_zero_addr] at this; exact this
  have hz0 := hw.2 z0 (by simp)
  have HZ0 := Lib.hid hz0
  have hm0 := modW_le z0
  clear hz0
  have hr1 : w.cell? ⟨ad.block, ad.off + 1, none⟩ = some (.int .i64 z1) := by have := hrow 1 (by simp); rw [add_one_addr] at this; exact this
  have hz1 := hw.2 z1 (by simp)
  have HZ1 := Lib.hid hz1
  have hm1 := modW_le z1
  clear hz1
  clear hrow hw
  have hcm' : (cap : Int) ≤ 9223372036854775807 := by unfold maxLen at hcm; omega
  go_enter Tryd.func3, Tryd.ntmps3
  go_wp2
  go_loop [9] (fun i => ∃ k : Nat, k ≤ 2 ∧ i = .int .i64 k) (fun i => 2 - (intOf i).toNat)
  case atStart => exact ⟨0, Nat.zero_le _, rfl⟩
  case round =>
    obtain ⟨j, hj, rfl⟩ := hrel
    by_cases hlt : j < 2
    · have hck := HROW.out j (by simpa using hlt)
      have hzj := HW.out.2 ([z0, z1][j]'(by simpa using hlt)) (List.getElem_mem _)
      generalize ([z0, z1][j]'(by simpa using hlt)) = z at *
      have HZ := Lib.hid hzj
      clear hzj hr0 hr1
      go_wp2_with ((go_at_call 5; refine (widthOK _ _ HZ.out).mono ?_; rintro e w' ⟨rfl, rfl⟩))
      go_round
      case rel => exact ⟨j + 1, hlt, by go_num⟩
      case measure => simp [intOf]; omega
    · obtain rfl : j = 2 := by omega
      go_wp2_with ((go_at_call 6; first | ((with_reducible refine (zzMod _ _ HZ0.out).mono ?_); rintro e w' ⟨rfl, rfl⟩) | ((with_reducible refine (zzMod _ _ HZ1.out).mono ?_); rintro e w' ⟨rfl, rfl⟩)))
      go_ret
      exact ⟨rfl, Below.refl _ _⟩

set_option maxRecDepth 100000 in
set_option maxHeartbeats 8000000 in
theorem rtE4 (op : Nat) (z0 : Int) (z1 : Int) (a b : Int) (w : World) (hop : op < 42) (hr : RowIs w 0 op [z0, z1]) (hw : Widths [z0, z1]) (ha0 : 0 ≤ a) (ha1 : modW z0 ≤ a) (_hax : a ≤ 9223372036854775807) (_hbx : b ≤ 9223372036854775807) :
    Calls Tryd.prog 3 #[.int .u8 op, .int .i64 a, .int .i64 b] w fun e w' => e = .returned (.bool true) ∧ Below w.heap.size w w' := by
  have HR := Lib.hid hr
  obtain ⟨ad, cap, hc0, hcap, hcm, hrow⟩ := hr
  have HW := Lib.hid hw
  have HROW := Lib.hid hrow
  have hmk := make02
  simp only [List.length_cons, List.length_nil, Nat.zero_add, Nat.reduceAdd] at hc0 hcap
  have hr0 : w.cell? ad = some (.int .i64 z0) := by have := hrow 0 (by simp); rw [add_zero_addr] at this; exact this
  have hz0 := hw.2 z0 (by simp)
  have HZ0 := Lib.hid hz0
  have hm0 := modW_le z0
  clear hz0
  have hr1 : w.cell? ⟨ad.block, ad.off + 1, none⟩ = some (.int .i64 z1) := by have := hrow 1 (by simp); rw [add_one_addr] at this; exact this
  have hz1 := hw.2 z1 (by simp)
  have HZ1 := Lib.hid hz1
  have hm1 := modW_le z1
  clear hz1
  clear hrow hw
  have hcm' : (cap : Int) ≤ 9223372036854775807 := by unfold maxLen at hcm; omega
  go_enter Tryd.func3, Tryd.ntmps3
  go_wp2
  go_loop [9] (fun i => ∃ k : Nat, k ≤ 2 ∧ i = .int .i64 k) (fun i => 2 - (intOf i).toNat)
  case atStart => exact ⟨0, Nat.zero_le _, rfl⟩
  case round =>
    obtain ⟨j, hj, rfl⟩ := hrel
    by_cases hlt : j < 2
    · have hck := HROW.out j (by simpa using hlt)
      have hzj := HW.out.2 ([z0, z1][j]'(by simpa using hlt)) (List.getElem_mem _)
      generalize ([z0, z1][j]'(by simpa using hlt)) = z at *
      have HZ := Lib.hid hzj
      clear hzj hr0 hr1
      go_wp2_with ((go_at_call 5; refine (widthOK _ _ HZ.out).mono ?_; rintro e w' ⟨rfl, rfl⟩))
      go_round
      case rel => exact ⟨j + 1, hlt, by go_num⟩
      case measure => simp [intOf]; omega
    · obtain rfl : j = 2 := by omega
      go_wp2_with ((go_at_call 6; first | ((with_reducible refine (zzMod _ _ HZ0.out).mono ?_); rintro e w' ⟨rfl, rfl⟩) | ((with_reducible refine (zzMod _ _ HZ1.out).mono ?_); rintro e w' ⟨rfl, rfl⟩)))
      go_ret
      exact ⟨rfl, Below.refl _ _⟩

set_option maxRecDepth 100000 in
set_option maxHeartbeats 8000000 in
theorem rtE5 (op : Nat) (z0 : Int) (z1 : Int) (a b : Int) (w : World) (hop : op < 42) (hr : RowIs w 0 op [z0, z1]) (hw : Widths [z0, z1]) (ha0 : 0 ≤ a) (ha1 : a < modW z0) (hb0 : b < 0) (_hax : a ≤ 9223372036854775807) (_hbx : b ≤ 9223372036854775807) :
    Calls Tryd.prog 3 #[.int .u8 op, .int .i64 a, .int .i64 b] w fun e w' => e = .returned (.bool true) ∧ Below w.heap.size w w' := by
  have HR := Lib.hid hr
  obtain ⟨ad, cap, hc0, hcap, hcm, hrow⟩ := hr
  have HW := Lib.hid hw
  have HROW := Lib.hid hrow
  have hmk := make02
  simp only [List.length_cons, List.length_nil, Nat.zero_add, Nat.reduceAdd] at hc0 hcap
  have hr0 : w.cell? ad = some (.int .i64 z0) := by have := hrow 0 (by simp); rw [add_zero_addr] at this; exact this
  have hz0 := hw.2 z0 (by simp)
  have HZ0 := Lib.hid hz0
  have hm0 := modW_le z0
  clear hz0
  have hr1 : w.cell? ⟨ad.block, ad.off + 1, none⟩ = some (.int .i64 z1) := by have := hrow 1 (by simp); rw [add_one_addr] at this; exact this
  have hz1 := hw.2 z1 (by simp)
  have HZ1 := Lib.hid hz1
  have hm1 := modW_le z1
  clear hz1
  clear hrow hw
  have hcm' : (cap : Int) ≤ 9223372036854775807 := by unfold maxLen at hcm; omega
  go_enter Tryd.func3, Tryd.ntmps3
  go_wp2
  go_loop [9] (fun i => ∃ k : Nat, k ≤ 2 ∧ i = .int .i64 k) (fun i => 2 - (intOf i).toNat)
  case atStart => exact ⟨0, Nat.zero_le _, rfl⟩
  case round =>
    obtain ⟨j, hj, rfl⟩ := hrel
    by_cases hlt : j < 2
    · have hck := HROW.out j (by simpa using hlt)
      have hzj := HW.out.2 ([z0, z1][j]'(by simpa using hlt)) (List.getElem_mem _)
      generalize ([z0, z1][j]'(by simpa using hlt)) = z at *
      have HZ := Lib.hid hzj
      clear hzj hr0 hr1
      go_wp2_with ((go_at_call 5; refine (widthOK _ _ HZ.out).mono ?_; rintro e w' ⟨rfl, rfl⟩))
      go_round
      case rel => exact ⟨j + 1, hlt, by go_num⟩
      case measure => simp [intOf]; omega
    · obtain rfl : j = 2 := by omega
      go_wp2_with ((go_at_call 6; first | ((with_reducible refine (zzMod _ _ HZ0.out).mono ?_); rintro e w' ⟨rfl, rfl⟩) | ((with_reducible refine (zzMod _ _ HZ1.out).mono ?_); rintro e w' ⟨rfl, rfl⟩)))
      go_ret
      exact ⟨rfl, Below.refl _ _⟩

set_option maxRecDepth 100000 in
set_option maxHeartbeats 8000000 in
theorem rtE6 (op : Nat) (z0 : Int) (z1 : Int) (a b : Int) (w : World) (hop : op < 42) (hr : RowIs w 0 op [z0, z1]) (hw : Widths [z0, z1]) (ha0 : 0 ≤ a) (ha1 : a < modW z0) (hb0 : 0 ≤ b) (hb1 : modW z1 ≤ b) (_hax : a ≤ 9223372036854775807) (_hbx : b ≤ 9223372036854775807) :
    Calls Tryd.prog 3 #[.int .u8 op, .int .i64 a, .int .i64 b] w fun e w' => e = .returned (.bool true) ∧ Below w.heap.size w w' := by
  have HR := Lib.hid hr
  obtain ⟨ad, cap, hc0, hcap, hcm, hrow⟩ := hr
  have HW := Lib.hid hw
  have HROW := Lib.hid hrow
  have hmk := make02
  simp only [List.length_cons, List.length_nil, Nat.zero_add, Nat.reduceAdd] at hc0 hcap
  have hr0 : w.cell? ad = some (.int .i64 z0) := by have := hrow 0 (by simp); rw [add_zero_addr] at this; exact this
  have hz0 := hw.2 z0 (by simp)
  have HZ0 := Lib.hid hz0
  have hm0 := modW_le z0
  clear hz0
  have hr1 : w.cell? ⟨ad.block, ad.off + 1, none⟩ = some (.int .i64 z1) := by have := hrow 1 (by simp); rw [add_one_addr] at this; exact this
  have hz1 := hw.2 z1 (by simp)
  have HZ1 := Lib.hid hz1
  have hm1 := modW_le z1
  clear hz1
  clear hrow hw
  have hcm' : (cap : Int) ≤ 9223372036854775807 := by unfold maxLen at hcm; omega
  go_enter Tryd.func3, Tryd.ntmps3
  go_wp2
  go_loop [9] (fun i => ∃ k : Nat, k ≤ 2 ∧ i = .int .i64 k) (fun i => 2 - (intOf i).toNat)
  case atStart => exact ⟨0, Nat.zero_le _, rfl⟩
  case round =>
    obtain ⟨j, hj, rfl⟩ := hrel
    by_cases hlt : j < 2
    · have hck := HROW.out j (by simpa using hlt)
      have hzj := HW.out.2 ([z0, z1][j]'(by simpa using hlt)) (List.getElem_mem _)
      generalize ([z0, z1][j]'(by simpa using hlt)) = z at *
      have HZ := Lib.hid hzj
      clear hzj hr0 hr1
      go_wp2_with ((go_at_call 5; refine (widthOK _ _ HZ.out).mono ?_; rintro e w' ⟨rfl, rfl⟩))
      go_round
      case rel => exact ⟨j + 1, hlt, by go_num⟩
      case measure => simp [intOf]; omega
    · obtain rfl : j = 2 := by omega
      go_wp2_with ((go_at_call 6; first | ((with_reducible refine (zzMod _ _ HZ0.out).mono ?_); rintro e w' ⟨rfl, rfl⟩) | ((with_reducible refine (zzMod _ _ HZ1.out).mono ?_); rintro e w' ⟨rfl, rfl⟩)))
      go_ret
      exact ⟨rfl, Below.refl _ _⟩

theorem rowsW2 : ∀ zs ∈ opRows, Widths zs := by decide
theorem opRow2 {w : World} (h : laidMetH Tryd.prog Rows.fnMakeInstructionReadOperandsRoundTripRow.laid w) (op : Nat) (hop : op < 42) : ∃ zs, RowIs w 0 op zs ∧ Widths zs := by
  rw [MakeChecks.laidMetH_plain _ _ _ (by kernel_rfl)] at h
  have h1 := rows_of_laid (g := 0) (t := 23) (e := 22) (f := 3) (m := 42) (rows := opRows) (n := "github.com/d5/tengo/v2/parser.OpcodeOperands") h (List.mem_cons_self ..) (by kernel_rfl) (by kernel_rfl) Tryd.underlying23 Tryd.underlying22 Tryd.underlying3 (by kernel_rfl) (by kernel_rfl) op hop
  exact ⟨_, h1, rowsW2 _ (List.getElem_mem _)⟩

theorem rtLaw (op : Nat) (a b : Int) (w : World) (_h256 : op < 256) (hT : op < 42 → ∃ zs, RowIs w 0 op zs ∧ Widths zs) (hax : a ≤ 9223372036854775807) (hbx : b ≤ 9223372036854775807) :
    Calls Tryd.prog 3 #[.int .u8 op, .int .i64 a, .int .i64 b] w fun e w' => e = .returned (.bool true) ∧ Below w.heap.size w w' := by
  by_cases hop : op < 42
  · obtain ⟨zs, hr, hw⟩ := hT hop
    clear hT
    have hzl := hw.1
    match zs, hr, hw, hzl with
    | [], hr, hw, _ => exact rt0 op a b w hop hr hw hax hbx
    | [z0], hr, hw, _ =>
      by_cases ha0 : a < 0
      · exact rtE1 op z0 a b w hop hr hw ha0 hax hbx
      · by_cases ha1 : modW z0 ≤ a
        · exact rtE2 op z0 a b w hop hr hw (by omega) ha1 hax hbx
        · exact rt1 op z0 a b w hop hr hw (by omega) (by omega) hax hbx
    | [z0, z1], hr, hw, _ =>
      by_cases ha0 : a < 0
      · exact rtE3 op z0 z1 a b w hop hr hw ha0 hax hbx
      · by_cases ha1 : modW z0 ≤ a
        · exact rtE4 op z0 z1 a b w hop hr hw (by omega) ha1 hax hbx
        · by_cases hb0 : b < 0
          · exact rtE5 op z0 z1 a b w hop hr hw (by omega) (by omega) hb0 hax hbx
          · by_cases hb1 : modW z1 ≤ b
            · exact rtE6 op z0 z1 a b w hop hr hw (by omega) (by omega) (by omega) hb1 hax hbx
            · exact rt2 op z0 z1 a b w hop hr hw (by omega) (by omega) (by omega) (by omega) hax hbx
    | _ :: _ :: _ :: _, _, _, h => simp at h
  · clear hT
    go_enter Tryd.func3, Tryd.ntmps3
    go_wp2
    go_ret
    exact ⟨rfl, Below.refl _ _⟩
end Go.Proofs.YtjnoodilpffbiaaDoor.Mk
namespace Go.Proofs.YtjnoodilpffbiaaDoor
open Go.Proofs.YtjnoodilpffbiaaDoor.Mk
theorem fnMakeInstructionReadOperandsRoundTrip.walk (a0 a1 a2 : Int) (w : World) (w0 : (Lit.int .u8 a0).wf = true) (w1 : (Lit.int .i64 a1).wf = true) (w2 : (Lit.int .i64 a2).wf = true) (hL : laidMetH Tryd.prog Rows.fnMakeInstructionReadOperandsRoundTripRow.laid w) :
    Calls Tryd.prog 3 #[.int .u8 a0, .int .i64 a1, .int .i64 a2] w fun e w' => e = .returned (.bool true) ∧ RowKit.Below w.heap.size w w' := by
  have hw : 0 ≤ a0 ∧ a0 < 256 := by
    simp [Lit.wf, IntKind.min, IntKind.max, IntKind.signed, IntKind.bits] at w0
    omega
  have hw1 : a1 ≤ 9223372036854775807 := by
    simp [Lit.wf, IntKind.min, IntKind.max, IntKind.signed, IntKind.bits] at w1
    omega
  have hw2 : a2 ≤ 9223372036854775807 := by
    simp [Lit.wf, IntKind.min, IntKind.max, IntKind.signed, IntKind.bits] at w2
    omega
  obtain ⟨op, rfl⟩ := Int.eq_ofNat_of_zero_le hw.1
  exact rtLaw op a1 a2 w (by omega) (fun h => opRow2 hL op h) hw1 hw2
end Go.Proofs.YtjnoodilpffbiaaDoor
