/- buildRange at step 1, the copy of an array, and what the laws read of an array. -/
import Derived.Test.YtaeinldkhjmleaaDoorInts2
import Derived.LaidEqlPtr
import Derived.Deep.QuietTactic
import Derived.BigQuiet
namespace Go.Proofs.YtaeinldkhjmleaaDoor.Rg
open Go.ChangeShapes Go.WideShapes Go.ChangeAt Go.RowKit Go.Blk

/-- The array object in block B: its slice, its Int objects in the blocks bs, their values vs. -/
structure ArrO (w : World) (B : Nat) (q : Option Addr) (cap : Nat) (bs : List Nat) (vs : List Int) : Prop where
  blk : Blk w B 33 [.slice q vs.length cap]
  row : ∀ j (hj : j < bs.length), ∃ G, q = some ⟨G, 0, none⟩ ∧ w.cell? ⟨G, j, none⟩ = some (.iface 50 (.pointer (some ⟨bs[j], 0, none⟩)))
  ints : IntsO w bs vs
theorem ArrO.old {w w' : World} {B : Nat} {q : Option Addr} {cap : Nat} {bs : List Nat} {vs : List Int} (h : ArrO w B q cap bs vs) (hb : Below w.heap.size w w') : ArrO w' B q cap bs vs :=
  ⟨h.blk.old hb, fun j hj => by obtain ⟨G, e, hc⟩ := h.row j hj; exact ⟨G, e, (hb.cell (World.block_lt_of_cell? w _ hc)).trans hc⟩, h.ints.old hb⟩
theorem own_row {w : World} {base n cap : Nat} {q : Option Addr} {bs : List Nat} (h : w.ownsRow base 35 1 (.slice q n cap) n (ifs bs)) : ∀ j (hj : j < bs.length), ∃ G, q = some ⟨G, 0, none⟩ ∧ w.cell? ⟨G, j, none⟩ = some (.iface 50 (.pointer (some ⟨bs[j], 0, none⟩))) := by
  intro j hj
  obtain ⟨h0, ⟨h1, h1'⟩ | ⟨g', cap', cur, h1, h2, h3, h4, h5, h6, h7⟩⟩ := h
  · have h9 : bs.length = n * 1 := by simpa [ifs] using h0
    omega
  · simp only [Value.slice.injEq] at h1
    obtain ⟨rfl, _, rfl⟩ := h1
    refine ⟨g', rfl, ?_⟩
    simp only [Nat.mul_one] at h6 h7
    have h8 : (ifs bs)[j]? = some (.iface 50 (.pointer (some ⟨bs[j], 0, none⟩))) := by simp [ifs, List.getElem?_eq_getElem hj]
    rw [← h7, List.getElem?_take] at h8
    split at h8
    · rw [Array.getElem?_toList] at h8
      unfold World.cell?
      simp only [h3]
      simpa using h8
    · cases h8
/-- The values of a range of n steps of d from s. -/
def rng (s d : Int) (n : Nat) : List Int := (List.range n).map fun j : Nat => s + d * j
theorem rng_length (s d : Int) (n : Nat) : (rng s d n).length = n := by simp [rng]
theorem rng_succ (s d : Int) (n : Nat) : rng s d (n + 1) = rng s d n ++ [s + d * n] := by simp [rng, List.range_succ]
theorem rng_get (s d : Int) (n j : Nat) (h : j < (rng s d n).length) : (rng s d n)[j] = s + d * j := by simp [rng]
/-- A new range. -/
def NewRng (w : World) (vs : List Int) (e : Ending) (w' : World) : Prop := ∃ B q cap bs, e = .returned (.pointer (some ⟨B, 0, none⟩)) ∧ w.heap.size ≤ B ∧ ArrO w' B q cap bs vs ∧ Below w.heap.size w w'

set_option maxRecDepth 100000 in
set_option maxHeartbeats 4000000 in
theorem rangeUp (s t : Int) (n : Nat) (w : World) (hs1 : -1152921504606846976 ≤ s) (hs2 : s ≤ 1152921504606846976) (hn : t = s + n) (hl : n ≤ 65536) :
    Calls Tryd.prog 16 #[.int .i64 s, .int .i64 t, .int .i64 1] w (NewRng w (rng s (1) n)) := by
  obtain ⟨i3, hi, hz0, hz1, hz2⟩ := info_parts infoO
  have HI := Lib.hid hi
  have HI0 := Lib.hid hz0
  have HI1 := Lib.hid hz1
  have HI2 := Lib.hid hz2
  clear hi hz0 hz1 hz2
  obtain rfl := hn
  have hle : s ≤ s + (n : Int) := by omega
  go_enter Tryd.func16, Tryd.ntmps16
  go_wp2
  go_loopw [8] (fun iv wr => ∃ (k : Nat) (q : Option Addr) (cap : Nat) (bs : List Nat), k ≤ n ∧ iv = .int .i64 (s + (k : Int)) ∧ Hid (Blk wr w.heap.size 33 [.slice q k cap] ∧ wr.ownsRow (w.heap.size + 1) 35 1 (.slice q k cap) k (ifs bs) ∧ IntsO wr bs (rng s (1) k) ∧ (∀ x ∈ bs, w.heap.size + 1 ≤ x ∧ (Value.slice q k cap).ownBlock ≠ some x) ∧ Below w.heap.size w wr)) (fun iv _ => (s + (n : Int) - intOf iv).toNat)
  case atStart => exact ⟨0, none, 0, [], Nat.zero_le _, by (congr 1; omega), Lib.hid ⟨blk_alloc w [_] 33, World.ownsRow_nil _ _ _ _, IntsO.nil _, (fun b hb => by simp at hb), (Below.refl _ _).alloc (Nat.le_refl _) _⟩⟩
  case round =>
    obtain ⟨k, q, cap, bs, hk, rfl, HS⟩ := hrel
    obtain ⟨wo, hwo⟩ : ∃ wo : World, wo = wr := ⟨_, rfl⟩
    subst hwo
    have hwb := HS.out.1.lt
    by_cases hlt : k < n
    · have q0 : wo.cell? ⟨w.heap.size, 0, none⟩ = some (.slice q k cap) := HS.out.1.cell? 0
      have f0 := HS.out.1.frz 0
      have hne : w.heap.size ≠ wo.heap.size := by omega
      have hlt1 : w.heap.size < wo.heap.size + 1 := by omega
      go_wp2_with ((at_builtin; refine wpList_append_lies _ rfl _ _ 25 rfl (w.heap.size + 1) 35 i3 .nilIface 1 16 Tryd.underlying25 HI.out HI0.out HI1.out HI2.out rfl (by decide) (.slice q k cap) k (ifs bs) rfl ((HS.out.2.1.alloc _).alloc _) ⟨wo.heap.size + 1, 0, none⟩ 1 1 [.iface 50 (.pointer (some ⟨wo.heap.size, 0, none⟩))] rfl rfl (news_p _ _ _ _) (by simp [Value.oneCell']) (by decide) (by unfold maxLen; omega) (by omega) (by simp; omega) (wo.heap.size + 2) (by simp) ?_; intro g5 cap5 w5 hown5 hgrow5 hat5 hlt5; have hrow : ∀ y, (Value.slice q k cap).ownBlock = some y → w.heap.size + 1 ≤ y ∧ y < wo.heap.size := HS.out.2.1.lt; have hB5 : w5.heap[w.heap.size]? = wo.heap[w.heap.size]? := (hgrow5.block _ (by simp; omega) (fun e => by have := (hrow _ e.symm).1; omega)).trans ((((Below.refl wo.heap.size wo).alloc (Nat.le_refl _) _).alloc (by simp) _).block _ hwb); have c5 : w5.cell? ⟨w.heap.size, 0, none⟩ = some (.slice q k cap) := (World.cell?_of_block (a := ⟨w.heap.size, 0, none⟩) hB5).trans q0; have f5 : w5.frozen? ⟨w.heap.size, 0, none⟩ = false := (World.frozen?_of_block (a := ⟨w.heap.size, 0, none⟩) hB5).trans f0; have HO5 := Lib.hid hown5; have HG5 := Lib.hid hgrow5; have HAT := Lib.hid hat5; have HROW := Lib.hid hrow; have HB5 := Lib.hid hB5; clear hown5 hgrow5 hat5 hrow hB5))
      go_roundw
      case rel =>
        obtain ⟨a0, a1, a2, a3, a4⟩ := HS.out
        have hbW : Below wo.heap.size wo ((wo.alloc (.cells #[.int .i64 (s + (k : Int))] 52)).alloc (.cells #[.iface 50 (.pointer (some ⟨wo.heap.size, 0, none⟩))] 35)) := ((Below.refl _ _).alloc (Nat.le_refl _) _).alloc (by simp) _
        have hk5 : ∀ y, y < wo.heap.size → (Value.slice q k cap).ownBlock ≠ some y → w5.heap[y]? = wo.heap[y]? := fun y hy hne => (HG5.out.block y (by simp; omega) (fun e => hne e.symm)).trans (hbW.block y hy)
        have hws : ∀ y, y ≠ w.heap.size → (w5.setCell ⟨w.heap.size, 0, none⟩ (.slice (some ⟨g5, 0, none⟩) (k + 1) cap5)).heap[y]? = w5.heap[y]? := fun y hy => heap_setCell_other _ _ _ _ hy
        refine ⟨k + 1, some ⟨g5, 0, none⟩, cap5, bs ++ [wo.heap.size], hlt, by (congr 1; omega), Lib.hid ⟨?_, ?_, ?_, ?_, ?_⟩⟩
        · exact (show Blk w5 w.heap.size 33 [.slice q k cap] from HB5.out.trans a0).set 0 _
        · rw [ifs_append]
          exact Go.Fmt.ownsRow_setCell HO5.out (by show w.heap.size < w.heap.size + 1; omega)
        · rw [rng_succ]
          refine IntsO.snoc (a2.keep (fun y hy => (hws y (by have := (a3 y hy).1; omega)).trans (hk5 y (a2.lt y hy) (a3 y hy).2))) ?_
          have h1 : w5.heap[wo.heap.size]? = ((wo.alloc (.cells #[.int .i64 (s + (k : Int))] 52)).alloc (.cells #[.iface 50 (.pointer (some ⟨wo.heap.size, 0, none⟩))] 35)).heap[wo.heap.size]? := HG5.out.block _ (by simp; omega) (fun e => by have := (HROW.out _ e.symm).2; omega)
          have h2 := (blk_alloc wo [.int .i64 (s + (k : Int))] 52).old ((Below.refl _ _).alloc (Nat.le_refl _) (.cells #[.iface 50 (.pointer (some ⟨wo.heap.size, 0, none⟩))] 35))
          have h3 := (hws wo.heap.size (by omega)).trans (h1.trans h2)
          rw [show s + 1 * (k : Int) = s + (k : Int) by omega]
          exact h3
        · intro y hy
          have hfr : y < wo.heap.size + 1 ∧ w.heap.size + 1 ≤ y ∧ (Value.slice q k cap).ownBlock ≠ some y := by
            rcases List.mem_append.1 hy with hy | hy
            · have := a2.lt y hy; exact ⟨by omega, a3 y hy⟩
            · simp only [List.mem_singleton] at hy
              subst hy
              exact ⟨by omega, by omega, fun e => by have := (HROW.out _ e).2; omega⟩
          refine ⟨hfr.2.1, fun e => ?_⟩
          have e' : g5 = y := by simpa [Value.ownBlock] using e
          rcases HAT.out with h | h
          · exact hfr.2.2 (by rw [h, e'])
          · have := hfr.1; omega
        · have hb5 : Below w.heap.size w w5 := ((a4.alloc a4.size _).alloc (by have := a4.size; simp; omega) _).grown HG5.out (by have := a4.size; simp; omega) (fun y hy => by have := (HROW.out y hy).1; omega)
          exact hb5.setCell (Nat.le_refl _) _
      case measure => simp [intOf]; omega
    · obtain rfl : k = n := by omega
      go_wp2
      go_ret
      obtain ⟨a0, a1, a2, a3, a4⟩ := HS.out
      exact ⟨w.heap.size, q, cap, bs, rfl, Nat.le_refl _, ⟨by rw [rng_length]; exact a0, own_row a1, a2⟩, a4⟩

set_option maxRecDepth 100000 in
set_option maxHeartbeats 4000000 in
theorem rangeDn (s t : Int) (n : Nat) (w : World) (hs1 : -1152921504606846976 ≤ s) (hs2 : s ≤ 1152921504606846976) (hn : t = s - n) (hl : n ≤ 65536) (hpos : 0 < n) :
    Calls Tryd.prog 16 #[.int .i64 s, .int .i64 t, .int .i64 1] w (NewRng w (rng s (-1) n)) := by
  obtain ⟨i3, hi, hz0, hz1, hz2⟩ := info_parts infoO
  have HI := Lib.hid hi
  have HI0 := Lib.hid hz0
  have HI1 := Lib.hid hz1
  have HI2 := Lib.hid hz2
  clear hi hz0 hz1 hz2
  obtain rfl := hn
  have hle : ¬ s ≤ s - (n : Int) := by omega
  go_enter Tryd.func16, Tryd.ntmps16
  go_wp2
  go_loopw [9] (fun iv wr => ∃ (k : Nat) (q : Option Addr) (cap : Nat) (bs : List Nat), k ≤ n ∧ iv = .int .i64 (s - (k : Int)) ∧ Hid (Blk wr w.heap.size 33 [.slice q k cap] ∧ wr.ownsRow (w.heap.size + 1) 35 1 (.slice q k cap) k (ifs bs) ∧ IntsO wr bs (rng s (-1) k) ∧ (∀ x ∈ bs, w.heap.size + 1 ≤ x ∧ (Value.slice q k cap).ownBlock ≠ some x) ∧ Below w.heap.size w wr)) (fun iv _ => (intOf iv - (s - (n : Int))).toNat)
  case atStart => exact ⟨0, none, 0, [], Nat.zero_le _, by (congr 1; omega), Lib.hid ⟨blk_alloc w [_] 33, World.ownsRow_nil _ _ _ _, IntsO.nil _, (fun b hb => by simp at hb), (Below.refl _ _).alloc (Nat.le_refl _) _⟩⟩
  case round =>
    obtain ⟨k, q, cap, bs, hk, rfl, HS⟩ := hrel
    obtain ⟨wo, hwo⟩ : ∃ wo : World, wo = wr := ⟨_, rfl⟩
    subst hwo
    have hwb := HS.out.1.lt
    by_cases hlt : k < n
    · have q0 : wo.cell? ⟨w.heap.size, 0, none⟩ = some (.slice q k cap) := HS.out.1.cell? 0
      have f0 := HS.out.1.frz 0
      have hne : w.heap.size ≠ wo.heap.size := by omega
      have hlt1 : w.heap.size < wo.heap.size + 1 := by omega
      go_wp2_with ((at_builtin; refine wpList_append_lies _ rfl _ _ 25 rfl (w.heap.size + 1) 35 i3 .nilIface 1 16 Tryd.underlying25 HI.out HI0.out HI1.out HI2.out rfl (by decide) (.slice q k cap) k (ifs bs) rfl ((HS.out.2.1.alloc _).alloc _) ⟨wo.heap.size + 1, 0, none⟩ 1 1 [.iface 50 (.pointer (some ⟨wo.heap.size, 0, none⟩))] rfl rfl (news_p _ _ _ _) (by simp [Value.oneCell']) (by decide) (by unfold maxLen; omega) (by omega) (by simp; omega) (wo.heap.size + 2) (by simp) ?_; intro g5 cap5 w5 hown5 hgrow5 hat5 hlt5; have hrow : ∀ y, (Value.slice q k cap).ownBlock = some y → w.heap.size + 1 ≤ y ∧ y < wo.heap.size := HS.out.2.1.lt; have hB5 : w5.heap[w.heap.size]? = wo.heap[w.heap.size]? := (hgrow5.block _ (by simp; omega) (fun e => by have := (hrow _ e.symm).1; omega)).trans ((((Below.refl wo.heap.size wo).alloc (Nat.le_refl _) _).alloc (by simp) _).block _ hwb); have c5 : w5.cell? ⟨w.heap.size, 0, none⟩ = some (.slice q k cap) := (World.cell?_of_block (a := ⟨w.heap.size, 0, none⟩) hB5).trans q0; have f5 : w5.frozen? ⟨w.heap.size, 0, none⟩ = false := (World.frozen?_of_block (a := ⟨w.heap.size, 0, none⟩) hB5).trans f0; have HO5 := Lib.hid hown5; have HG5 := Lib.hid hgrow5; have HAT := Lib.hid hat5; have HROW := Lib.hid hrow; have HB5 := Lib.hid hB5; clear hown5 hgrow5 hat5 hrow hB5))
      go_roundw
      case rel =>
        obtain ⟨a0, a1, a2, a3, a4⟩ := HS.out
        have hbW : Below wo.heap.size wo ((wo.alloc (.cells #[.int .i64 (s - (k : Int))] 52)).alloc (.cells #[.iface 50 (.pointer (some ⟨wo.heap.size, 0, none⟩))] 35)) := ((Below.refl _ _).alloc (Nat.le_refl _) _).alloc (by simp) _
        have hk5 : ∀ y, y < wo.heap.size → (Value.slice q k cap).ownBlock ≠ some y → w5.heap[y]? = wo.heap[y]? := fun y hy hne => (HG5.out.block y (by simp; omega) (fun e => hne e.symm)).trans (hbW.block y hy)
        have hws : ∀ y, y ≠ w.heap.size → (w5.setCell ⟨w.heap.size, 0, none⟩ (.slice (some ⟨g5, 0, none⟩) (k + 1) cap5)).heap[y]? = w5.heap[y]? := fun y hy => heap_setCell_other _ _ _ _ hy
        refine ⟨k + 1, some ⟨g5, 0, none⟩, cap5, bs ++ [wo.heap.size], hlt, by (congr 1; omega), Lib.hid ⟨?_, ?_, ?_, ?_, ?_⟩⟩
        · exact (show Blk w5 w.heap.size 33 [.slice q k cap] from HB5.out.trans a0).set 0 _
        · rw [ifs_append]
          exact Go.Fmt.ownsRow_setCell HO5.out (by show w.heap.size < w.heap.size + 1; omega)
        · rw [rng_succ]
          refine IntsO.snoc (a2.keep (fun y hy => (hws y (by have := (a3 y hy).1; omega)).trans (hk5 y (a2.lt y hy) (a3 y hy).2))) ?_
          have h1 : w5.heap[wo.heap.size]? = ((wo.alloc (.cells #[.int .i64 (s - (k : Int))] 52)).alloc (.cells #[.iface 50 (.pointer (some ⟨wo.heap.size, 0, none⟩))] 35)).heap[wo.heap.size]? := HG5.out.block _ (by simp; omega) (fun e => by have := (HROW.out _ e.symm).2; omega)
          have h2 := (blk_alloc wo [.int .i64 (s - (k : Int))] 52).old ((Below.refl _ _).alloc (Nat.le_refl _) (.cells #[.iface 50 (.pointer (some ⟨wo.heap.size, 0, none⟩))] 35))
          have h3 := (hws wo.heap.size (by omega)).trans (h1.trans h2)
          rw [show s + -1 * (k : Int) = s - (k : Int) by omega]
          exact h3
        · intro y hy
          have hfr : y < wo.heap.size + 1 ∧ w.heap.size + 1 ≤ y ∧ (Value.slice q k cap).ownBlock ≠ some y := by
            rcases List.mem_append.1 hy with hy | hy
            · have := a2.lt y hy; exact ⟨by omega, a3 y hy⟩
            · simp only [List.mem_singleton] at hy
              subst hy
              exact ⟨by omega, by omega, fun e => by have := (HROW.out _ e).2; omega⟩
          refine ⟨hfr.2.1, fun e => ?_⟩
          have e' : g5 = y := by simpa [Value.ownBlock] using e
          rcases HAT.out with h | h
          · exact hfr.2.2 (by rw [h, e'])
          · have := hfr.1; omega
        · have hb5 : Below w.heap.size w w5 := ((a4.alloc a4.size _).alloc (by have := a4.size; simp; omega) _).grown HG5.out (by have := a4.size; simp; omega) (fun y hy => by have := (HROW.out y hy).1; omega)
          exact hb5.setCell (Nat.le_refl _) _
      case measure => simp [intOf]; omega
    · obtain rfl : k = n := by omega
      go_wp2
      go_ret
      obtain ⟨a0, a1, a2, a3, a4⟩ := HS.out
      exact ⟨w.heap.size, q, cap, bs, rfl, Nat.le_refl _, ⟨by rw [rng_length]; exact a0, own_row a1, a2⟩, a4⟩
end Go.Proofs.YtaeinldkhjmleaaDoor.Rg
