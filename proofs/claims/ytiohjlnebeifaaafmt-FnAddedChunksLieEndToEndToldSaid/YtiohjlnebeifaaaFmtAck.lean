/- The law FnAddedChunksLieEndToEnd: its walk. -/
import Derived.Test.YtiohjlnebeifaaaFmtScope3
import Derived.Test.YtiohjlnebeifaaaFmtScSt
import Derived.Test.YtiohjlnebeifaaaFmtEq
import Derived.Test.YtiohjlnebeifaaaFmtClone
import Derived.Test.YtiohjlnebeifaaaFmtRow2
import Derived.IntWalk
import Derived.DataElems
namespace Go.Proofs.YtiohjlnebeifaaaFmt.Ac
open Go.ChangeShapes Go.WideShapes Go.ChangeAt Go.RowKit Go.Nest Go.Fmt Go.Proofs.YtiohjlnebeifaaaFmt.Fm Go.Proofs.YtiohjlnebeifaaaFmt.Sc

theorem info16 : (Tryf.prog.info? 44).map (fun i => (i.zero, i.size, i.bytes)) = some (some (.int .u16 0), 1, 2) := by kernel_rfl
theorem below_drewN {B n : Nat} {w w' : World} (h : Below B w w') : Below B w (w'.drewN n) := ⟨h.os, h.tape, h.output, h.size, h.block⟩

set_option maxHeartbeats 1000000 in
theorem guardAck (p q : Option Addr) (l c m d : Nat) (b : Bool) (w : World) (hsz : l ≤ 140737488351232) (hsz2 : m ≤ 140737488351232) (hb : decide (l ≤ 1048576 ∧ m ≤ 1048576 ∧ l + m ≤ 1048576) = b) :
    Calls Tryf.prog 22 #[.slice p l c, .slice q m d] w fun e w' => e = .returned (.bool b) ∧ w = w' := by
  subst hb
  by_cases h : l ≤ 1048576
  · by_cases h2 : m ≤ 1048576
    · by_cases h3 : l + m ≤ 1048576
      · have h3' : (l : Int) + (m : Int) ≤ 1048576 := by omega
        go_enter Tryf.func22, Tryf.ntmps22
        go_wp2
        go_ret
        exact ⟨by simp [h, h2, h3], rfl⟩
      · have h3' : (1048576 : Int) < (l : Int) + (m : Int) := by omega
        go_enter Tryf.func22, Tryf.ntmps22
        go_wp2
        go_ret
        exact ⟨by simp [h3], rfl⟩
    · go_enter Tryf.func22, Tryf.ntmps22
      go_wp2
      go_ret
      exact ⟨by simp [h2], rfl⟩
  · go_enter Tryf.func22, Tryf.ntmps22
    go_wp2
    go_ret
    exact ⟨by simp [h], rfl⟩

/-- A row of numbers of two bytes. -/
def Row16 (w : World) (p : Option Addr) (xs : List Int) : Prop := (p = none ∧ xs = []) ∨ ∃ x, p = some x ∧ ∀ j (hj : j < xs.length), w.cell? (x.add j) = some (.int .u16 xs[j])
theorem row16_of {w : World} {p : Option Addr} {len cap : Nat} {zs : List Int} (h : LawFrame.IsRow .u16 2 w p len cap zs) : ∃ xs, Row16 w p xs ∧ xs.length = len ∧ (p = none → cap = 0) ∧ len ≤ 140737488351232 ∧ ∀ x ∈ xs, 0 ≤ x ∧ x < 65536 := by
  rcases h with ⟨h1, h2, h3, h4⟩ | ⟨x, h1, h2, h3, h4, h5, h6⟩
  · exact ⟨[], .inl ⟨h1, rfl⟩, h2.symm, fun _ => h3, by omega, by simp⟩
  · refine ⟨zs.take len, .inr ⟨x, h1, fun j hj => ?_⟩, by simp; omega, (fun e => by rw [h1] at e; cases e), by omega, fun y hy => ?_⟩
    · have hj' : j < zs.length := by simp at hj; omega
      rw [h5 j hj', List.getD_eq_getElem?_getD, List.getElem?_eq_getElem hj']
      simp
    · have hw := h6 y (List.mem_of_mem_take hy)
      simp [Lit.wf, IntKind.min, IntKind.max, IntKind.signed, IntKind.bits] at hw
      omega
def CopyOf16 (w : World) (xs : List Int) (e : Ending) (w' : World) : Prop := ∃ q c, e = .returned (.slice q xs.length c) ∧ Row16 w' q xs ∧ Below w.heap.size w w'
theorem row16_own {w : World} {base g n : Nat} {e : TypeId} {xs : List Int} (h : w.ownsRow base e 1 (.slice (some ⟨g, 0, none⟩) xs.length n) xs.length (xs.map (.int .u16))) : Row16 w (some ⟨g, 0, none⟩) xs := by
  refine .inr ⟨_, rfl, fun j hj => ?_⟩
  exact h.cells (g := g) rfl j _ (by simp [List.getElem?_eq_getElem hj])

set_option maxRecDepth 100000 in
set_option maxHeartbeats 1000000 in
theorem clone16 (p : Option Addr) (cap : Nat) (xs : List Int) (w : World) (h : Row16 w p xs) (hl : xs.length ≤ 1048576) (hc : p = none → cap = 0) : Calls Tryf.prog 23 #[.slice p xs.length cap] w (CopyOf16 w xs) := by
  have he : ∀ p l c w, (binOp .eql 41 (.slice p l c) (.slice none 0 0)).run Tryf.prog w = .ok (.bool p.isNone) w := fun p l c w => by cases p <;> rfl
  obtain ⟨i3, hi, hz0, hz1, hz2⟩ := info_parts info16
  have HI := Lib.hid (And.intro hi (And.intro hz0 (And.intro hz1 hz2)))
  clear hi hz0 hz1 hz2
  rcases h with ⟨rfl, rfl⟩ | ⟨x, rfl, hx⟩
  · obtain rfl := hc rfl
    have he1 := he none 0 0
    clear he hc
    go_enter Tryf.func23, Tryf.ntmps23
    go_wp2
    go_ret
    exact ⟨none, 0, rfl, .inl ⟨rfl, rfl⟩, Below.refl _ _⟩
  · have he1 := he (some x) xs.length cap
    have HX := Lib.hid hx
    clear he hc hx
    go_enter Tryf.func23, Tryf.ntmps23
    go_wp2_with ((at_make; refine wpList_make_full _ rfl _ _ 41 rfl w.heap.size 44 i3 (.int .u16 0) 1 Tryf.underlying41 HI.out.1 HI.out.2.1 HI.out.2.2.1 .i64 .i64 _ _ xs.length rfl rfl rfl rfl (by rw [HI.out.2.2.2]; omega) (by unfold maxLen; omega) (Nat.le_refl _) ?_; intro w1 hown1 hgrow1))
    have hb1 : Below w.heap.size w w1 := (Below.refl _ _).grown hgrow1 (Nat.le_refl _) (fun k hk => by cases hk)
    have hown0 := own_take hown1 (Nat.zero_le _)
    clear hgrow1 hown1
    go_loopw [4] (fun i wr => ∃ k : Nat, k ≤ xs.length ∧ i = .int .i64 k ∧ wr.ownsRow w.heap.size 44 1 (.slice (some ⟨w.heap.size, 0, none⟩) k xs.length) k ((xs.take k).map (.int .u16)) ∧ Below w.heap.size w wr) (fun i _ => xs.length - (intOf i).toNat)
    case atStart => exact ⟨0, Nat.zero_le _, rfl, by simpa using hown0, hb1⟩
    case round =>
      obtain ⟨k, hk, rfl, hown, hb⟩ := hrel
      have hbs := hb.size
      by_cases hlt : k < xs.length
      · have hc0 := HX.out k hlt
        have hcx := (hb.cell (World.block_lt_of_cell? w _ hc0)).trans hc0
        obtain ⟨⟨v, hcv⟩, hfv⟩ := own_cell hown (j := k) hlt
        have HE := Lib.hid (show (xs.take (k + 1)).map (Value.int .u16) = (xs.take k).map (.int .u16) ++ [.int .u16 xs[k]] by rw [List.take_succ_eq_append_getElem hlt, List.map_append]; rfl)
        clear hc0
        go_wp2
        go_roundw
        case rel =>
          refine ⟨k + 1, hlt, by go_num, ?_, hb.setCell (Nat.le_refl _) _⟩
          rw [HE.out]
          exact own_set (.int .u16 xs[k]) hown hlt
        case measure => simp [intOf]; omega
      · obtain rfl : k = xs.length := by omega
        go_wp2
        go_ret
        exact ⟨_, _, rfl, row16_own (by simpa using hown), hb⟩

/-- A slice cut at off. -/
def cutA (q : Option Addr) (c off : Nat) : Option Addr := if c = off then q else q.map (·.add off)
theorem size8 : (Tryf.prog.info? 5).map (·.size) = some 1 := by kernel_rfl
theorem elem8 : Tryf.prog.elem 22 = 5 := by kernel_rfl
theorem und8 : Tryf.prog.underlying 22 = some (.slice (Tryf.prog.elem 22)) := by rw [elem8]; exact Tryf.underlying22
theorem cut_lh (q : Option Addr) (dl c off n : Nat) (W : World) (h : off + n ≤ c) : (Instr.slice 22 (.slice q dl c) (some (.int .i64 off)) (some (.int .i64 ((off : Int) + (n : Int)))) none).run Tryf.prog W = .ok (.slice (cutA q c off) n (c - off)) W := by
  obtain ⟨i, hi, hs⟩ := Option.map_eq_some_iff.1 size8
  rw [run_slice_lh _ _ _ _ _ und8 .i64 .i64 off ((off : Int) + (n : Int)) (by omega) (by omega) (by omega), elem8]
  simp only [sizeOf, typeInfo, Sem.run_bind]
  simp [hi, hs, sliced, cutA, show ((off : Int) + (n : Int)).toNat = off + n by omega]
theorem cut_h (q : Option Addr) (dl c off : Nat) (W : World) (h : off ≤ c) (hq : q = none → c = 0) : (Instr.slice 22 (.slice q dl c) none (some (.int .i64 off)) none).run Tryf.prog W = .ok (.slice q off c) W := by
  obtain ⟨i, hi, hs⟩ := Option.map_eq_some_iff.1 size8
  rw [run_slice_h _ _ _ _ _ und8 .i64 off (by omega) (by omega), elem8]
  simp only [sizeOf, typeInfo, Sem.run_bind]
  rcases q with _ | ⟨a⟩
  · obtain rfl := hq rfl; simp [hi, hs, sliced]
  · simp [hi, hs, sliced, Addr.add]
theorem cut_src {w : World} {q : Option Addr} {ds : List UInt8} {off n : Nat} (h : RowAt w q ds.length ds) (hn : off + n ≤ ds.length) : SrcB w (cutA q ds.length off) (ds.length - off) (bcells ((ds.drop off).take n)) := by
  rcases h with ⟨rfl, _, rfl⟩ | ⟨x, rfl, _, hx⟩
  · exact .inl ⟨by unfold cutA; split <;> rfl, by simp, by simp [bcells]⟩
  · refine .inr ⟨if ds.length = off then x else x.add off, by unfold cutA; split <;> rfl, fun j u hu => ?_⟩
    simp only [bcells, List.getElem?_map, Option.map_eq_some_iff] at hu
    obtain ⟨y, hy, rfl⟩ := hu
    rw [List.getElem?_take] at hy
    split at hy
    · rw [List.getElem?_drop] at hy
      have hlt : off + j < ds.length := by
        rcases Nat.lt_or_ge (off + j) ds.length with h | h
        · exact h
        · rw [List.getElem?_eq_none h] at hy; cases hy
      rw [if_neg (by omega), Addr.add_add, hx _ hlt]
      rw [List.getElem?_eq_getElem hlt] at hy
      simp only [Option.some.injEq] at hy
      rw [hy]
    · cases hy
theorem RowAt.take {w : World} {q : Option Addr} {ds : List UInt8} {off : Nat} (h : RowAt w q ds.length ds) (hn : off ≤ ds.length) : RowAt w q off (ds.take off) := by
  rcases h with ⟨rfl, _, rfl⟩ | ⟨x, rfl, _, hx⟩
  · exact .inl ⟨rfl, by simpa using hn, by simp⟩
  · refine .inr ⟨x, rfl, by simp; omega, fun j hj => ?_⟩
    have hj' : j < ds.length := by simp at hj; omega
    rw [hx j hj']
    simp

theorem row_bytes {w : World} {v : Value} {n : Nat} {xs : List Value} {b : List UInt8} (h : w.ownsRow 0 5 1 v n xs) (hx : xs = bcells b) (hn : n = xs.length) : ∃ p c, v = .slice p b.length c ∧ RowAt w p b.length b := by
  subst hx
  rw [bcells_length] at hn
  subst hn
  obtain ⟨p, c, rfl, _, _⟩ := row_form h
  exact ⟨p, c, rfl, RowAt.of_own h⟩
/-- What holds while the chunks are added. -/
def Ck (base : Nat) (w0 w : World) (C : Nat) (ds : List UInt8) (off : Nat) : Prop :=
  ∃ F t1 t0 s0 s, CompS w F C [t1, t0] [s0] s ∧ s0.xs = bcells [7] ∧ s.xs = bcells (ds.take off) ∧ (∀ k, F k → base ≤ k) ∧ base ≤ C ∧ Below base w0 w ∧ base ≤ w.heap.size
theorem Ck.keep {base : Nat} {w0 w w' : World} {C off : Nat} {ds : List UInt8} (h : Ck base w0 w C ds off) (hb : Below w.heap.size w w') : Ck base w0 w' C ds off := by
  obtain ⟨F, t1, t0, s0, s, h1, h2, h3, h4, h5, h6, h7⟩ := h
  exact ⟨F, t1, t0, s0, s, h1.turned (G := fun _ => False) ⟨hb.os, hb.tape, hb.output, hb.size, fun k hk _ => hb.block k hk⟩ (fun _ _ h => h), h2, h3, h4, h5, h6.trans (hb.mono h7), Nat.le_trans h7 hb.size⟩
theorem Ck.add {base : Nat} {w0 w : World} {C off n c : Nat} {A : Option Addr} {ds : List UInt8} (h : Ck base w0 w C ds off) (hn : off + n ≤ ds.length) (hl : ds.length ≤ 65536) (hA : SrcB w A c (bcells ((ds.drop off).take n))) :
    Calls Tryf.prog 18 #[.pointer (some ⟨C, 0, none⟩), .slice A n c] w fun e w' => e = .returned (.int .i64 off) ∧ Ck base w0 w' C ds (off + n) := by
  obtain ⟨F, t1, t0, s0, s, h1, h2, h3, h4, h5, h6, h7⟩ := h
  have e1 : s.xs.length = off := by rw [h3, bcells_length, List.length_take]; omega
  have e2 : (bcells ((ds.drop off).take n)).length = n := by rw [bcells_length, List.length_take, List.length_drop]; omega
  have hc := zAddI F C [t1, t0] [s0] s A c (bcells ((ds.drop off).take n)) w h1 (by simp) (by rw [e1, e2]; omega) hA (by
    intro u hu
    obtain ⟨b, _, rfl⟩ := List.mem_map.1 hu
    rfl)
  rw [e1, e2] at hc
  refine hc.mono ?_
  rintro e w' ⟨rfl, F', v', k1, k2, k3⟩
  have hb := k2.below h7 (fun k hk => by rcases hk with a | a; exact h4 k a; exact a ▸ h5)
  refine ⟨rfl, F', t1, t0, s0, _, k1, h2, by simp only [h3, ← bcells_append, List.take_add], fun k hk => ?_, h5, h6.trans hb, Nat.le_trans h7 hb.size⟩
  rcases k3 k hk with a | a
  · exact h4 k a
  · omega
theorem Ck.ends {base : Nat} {w0 w : World} {C off : Nat} {ds : List UInt8} (h : Ck base w0 w C ds off) (hn : off ≤ ds.length) :
    ∃ pS cS, (∀ W, Below w.heap.size w W → Calls Tryf.prog 17 #[.pointer (some ⟨C, 0, none⟩)] W fun e w' => e = .returned (.slice pS off cS) ∧ ∃ k, w' = W.drewN k) ∧ RowAt w pS off (ds.take off) ∧
      (∀ W, Below w.heap.size w W → Calls Tryf.prog 20 #[.pointer (some ⟨C, 0, none⟩)] W fun e w' => e = .returned (.slice pS off cS) ∧ RowAt w' pS off (ds.take off) ∧ (∃ F t s0, CompS w' F C [t] [] s0 ∧ s0.xs = bcells [7]) ∧ Below base w w') := by
  obtain ⟨F, t1, t0, s0, s, h1, h2, h3, h4, h5, h6, h7⟩ := h
  obtain ⟨g, cap, _, hN⟩ := h1.sc
  obtain ⟨pS, cS, eS, rS⟩ := row_bytes hN.last h3 rfl
  have el : (ds.take off).length = off := by rw [List.length_take]; omega
  rw [el] at eS rS
  have hsC : s.v.ownBlock ≠ some C := fun e => h1.cF ((hN.feet s (by simp) C e).1)
  have hk : ∀ W, Below w.heap.size w W → CompS W F C [t1, t0] [s0] s := fun W hb => h1.turned (G := fun _ => False) ⟨hb.os, hb.tape, hb.output, hb.size, fun k hk _ => hb.block k hk⟩ (fun _ _ h => h)
  have hown := hN.last
  rw [h3, bcells_length, el, eS] at hown
  refine ⟨pS, cS, fun W hW => ?_, rS, fun W hW => ?_⟩
  · have := zCurI F C [t1, t0] [s0] s W (hk W hW) (by simp)
    rwa [eS] at this
  · refine (zLevS F C t1 t0 [] [] s s0 W (by simpa using hk W hW) (by simp)).mono ?_
    rintro e w' ⟨rfl, k1, k2⟩
    rw [eS] at hsC
    refine ⟨by rw [eS], ?_, ⟨F, t0, s0, k1, h2⟩, (hW.mono h7).trans (k2.below (Nat.le_trans h7 hW.size) (fun k hk => hk ▸ h5))⟩
    have := row_keep (w' := w') hown (fun k hk => (k2.block k (Nat.lt_of_lt_of_le (row_lt hown hk) hW.size) (fun e => hsC (e ▸ hk))).trans (hW.block k (row_lt hown hk)))
    have h8 := RowAt.of_own (bs := ds.take off) (by rw [el]; exact this)
    rwa [el] at h8

set_option maxRecDepth 100000 in
set_option maxHeartbeats 4000000 in
theorem ackMain (p p2 : Option Addr) (cap cap2 : Nat) (ds : List UInt8) (xs : List Int) (w : World) (hr : RowAt w p ds.length ds) (hc : p = none → cap = 0) (hr2 : Row16 w p2 xs) (hc2 : p2 = none → cap2 = 0) (hb : ∀ x ∈ xs, 0 ≤ x ∧ x < 65536) (hs : ds.length ≤ 65536) (hs2 : xs.length ≤ 4096) :
    Calls Tryf.prog 5 #[.slice p ds.length cap, .slice p2 xs.length cap2] w fun e w' => e = .returned (.bool true) ∧ Below w.heap.size w w' := by
  have HC := Lib.hid (zzClone p ds.length cap ds w hr (by omega) hc)
  have hsI : decide ((65536 : Int) < (ds.length : Int)) = false := by simp; omega
  have hsI2 : decide ((4096 : Int) < (xs.length : Int)) = false := by simp; omega
  have HR2 := Lib.hid hr2
  have HBB := Lib.hid hb
  have HC2 := Lib.hid hc2
  clear hr hc hr2 hb hc2
  go_enter Tryf.func5, Tryf.ntmps5
  go_wp2_with (fail)
  refine (guardAck p p2 ds.length cap xs.length cap2 true w (by omega) (by omega) (by simp; omega)).mono ?_
  rintro e w' ⟨rfl, rfl⟩
  go_wp2_with (fail)
  refine HC.out.mono ?_
  intro e w1 hcp
  have hcq : ∃ q, e = .returned (.slice q ds.length ds.length) ∧ RowAt w1 q ds.length ds ∧ (q = none → ds.length = 0) ∧ Below w.heap.size w w1 := by
    rcases hcp with ⟨rfl, rfl, rfl, rfl⟩ | ⟨g, rfl, hown, hb⟩
    · exact ⟨none, rfl, .inl ⟨rfl, rfl, rfl⟩, fun _ => rfl, Below.refl _ _⟩
    · exact ⟨some ⟨g, 0, none⟩, rfl, RowAt.of_own hown, (fun e => by cases e), hb⟩
  obtain ⟨q, rfl, hrow1, hq0, hb1⟩ := hcq
  have hr16 : Row16 w1 p2 xs := by
    rcases HR2.out with h | ⟨x, h1, h2⟩
    · exact .inl h
    · exact .inr ⟨x, h1, fun j hj => (hb1.cell (World.block_lt_of_cell? w _ (h2 j hj))).trans (h2 j hj)⟩
  have HCL := Lib.hid (clone16 p2 cap2 xs w1 hr16 (by omega) HC2.out)
  have HROW1 := Lib.hid hrow1
  have HQ0 := Lib.hid hq0
  have HB1 := Lib.hid hb1
  clear hcp hrow1 hq0 hb1 HC hr16
  go_wp2_with (fail)
  refine HCL.out.mono ?_
  rintro e w2 ⟨q2, c2, rfl, hrow2, hb2⟩
  have HROW := Lib.hid (HROW1.out.old hb2)
  have HROW2 := Lib.hid hrow2
  have HB2 : Hid (Below w.heap.size w w2) := Lib.hid (HB1.out.trans (hb2.mono HB1.out.size))
  clear hrow2 hb2 HROW1 HB1 HCL
  go_wp2_with (fail)
  refine (newS w2).mono ?_
  rintro e w3 ⟨F, C, t, ex, rfl, hcs, hb3, hC, hF, hT⟩
  have HADD : Hid (Calls Tryf.prog 18 #[.pointer (some ⟨C, 0, none⟩), .slice (some ⟨w3.heap.size, 0, none⟩) 1 1] (w3.alloc (.cells #[.int .u8 7] 5)) fun e w' => e = .returned (.int .i64 0) ∧ ∃ F' s0, CompS w' F' C [t] [] s0 ∧ s0.xs = bcells [7] ∧ Below w2.heap.size w2 w' ∧ (∀ k, F' k → w2.heap.size ≤ k)) := Lib.hid (by
    have hba : Below w3.heap.size w3 (w3.alloc (.cells #[.int .u8 7] 5)) := (Below.refl _ _).alloc (Nat.le_refl _) _
    have h := zAddI F C [t] [] ⟨.slice none 0 0, ex, []⟩ (some ⟨w3.heap.size, 0, none⟩) 1 (bcells [7]) (w3.alloc (.cells #[.int .u8 7] 5)) (hcs.turned (G := fun _ => False) ⟨hba.os, hba.tape, hba.output, hba.size, fun k hk _ => hba.block k hk⟩ (fun _ _ h => h)) (by simp) (by simp [bcells]) (.inr ⟨_, rfl, cell_one_new _ _ _⟩) (by simp [bcells, Value.oneCell'])
    refine h.mono ?_
    rintro e w' ⟨he, F', v', k1, k2, k3⟩
    have hs3 := hb3.size
    refine ⟨he, F', _, k1, rfl, (hb3.trans (hba.mono hs3)).trans (k2.below (by simp; omega) (fun k hk => by rcases hk with a | a; exact hF k a; exact a ▸ hC)), fun k hk => ?_⟩
    rcases k3 k hk with a | a
    · exact hF k a
    · simp at a; omega)
  clear hcs hb3 hF hT
  go_wp2_with (fail)
  refine HADD.out.mono ?_
  rintro e w4 ⟨rfl, F4, s0, hcs4, hx4, hb4, hf4⟩
  have HENT := Lib.hid (zEntS F4 C [t] [] s0 w4 hcs4 (by simp))
  have HX4 := Lib.hid hx4
  have HB4 := Lib.hid hb4
  have HF4 := Lib.hid hf4
  clear hcs4 hx4 hb4 hf4 HADD
  go_wp2_with (fail)
  refine HENT.out.mono ?_
  rintro e w5 ⟨rfl, F5, t5, ex5, hcs5, ht5, hch5, htn5⟩
  have hck : Ck w2.heap.size w2 w5 C ds 0 := by
    have h4 := HB4.out.size
    have hb5 := ht5.below h4 (fun k hk => by rcases hk with a | a; exact HF4.out k a; exact a ▸ hC)
    refine ⟨F5, t5, t, s0, _, hcs5, HX4.out, rfl, fun k hk => ?_, hC, HB4.out.trans hb5, Nat.le_trans h4 hb5.size⟩
    rcases hch5 k hk with a | a
    · exact HF4.out k a
    · omega
  have HZ5 := Lib.hid (zCurI F5 C [t5, t] [s0] ⟨.slice none 0 0, ex5, []⟩ w5 hcs5 (by simp))
  have HCK := Lib.hid hck
  clear hcs5 ht5 hch5 htn5 hck HENT HF4 HB4
  go_wp2_with (fail)
  refine HZ5.out.mono ?_
  rintro e w' ⟨rfl, k0, rfl⟩
  obtain ⟨w6, hw6⟩ : ∃ w6, w6 = w5.drewN k0 := ⟨_, rfl⟩
  have HK6 : Hid (Ck w2.heap.size w2 w6 C ds 0) := Lib.hid (by rw [hw6]; exact HCK.out.keep (below_drewN (Below.refl _ _)))
  rw [← hw6]
  clear hw6 HCK HZ5 hC
  go_wp2
  go_loopw [6, 7] (fun ov iv wr => ∃ i off : Nat, i ≤ xs.length ∧ off ≤ ds.length ∧ iv = .int .i64 i ∧ ov = .int .i64 off ∧ Hid (Ck w2.heap.size w2 wr C ds off)) (fun _ iv _ => xs.length - (intOf iv).toNat)
  case atStart => exact ⟨0, 0, Nat.zero_le _, Nat.zero_le _, rfl, rfl, HK6⟩
  case round =>
    obtain ⟨i, off, hin, hoff, rfl, rfl, HK⟩ := hrel
    obtain ⟨wo, hwo⟩ : ∃ wo : World, wo = wr := ⟨_, rfl⟩
    subst hwo
    by_cases hlt : i < xs.length
    · have hr2 := HROW2.out
      rcases hr2 with ⟨_, h0⟩ | ⟨x, rfl, hx⟩
      · rw [h0] at hlt; simp at hlt
      have hbel : Below w2.heap.size w2 wo := by obtain ⟨_, _, _, _, _, _, _, _, _, _, h, _⟩ := HK.out; exact h
      have hx0 := hx i hlt
      have hx1 := (hbel.cell (World.block_lt_of_cell? w2 _ hx0)).trans hx0
      have hcb := HBB.out xs[i] (List.getElem_mem _)
      obtain ⟨z, hz⟩ : ∃ z, z = xs[i] := ⟨_, rfl⟩
      rw [← hz] at hx1 hcb
      obtain ⟨n0, rfl⟩ := Int.eq_ofNat_of_zero_le hcb.1
      have hn0 : n0 < 65536 := by omega
      have hi0 : (0 : Int) ≤ (i : Int) := by omega
      have hi1 : (i : Int) < (xs.length : Int) := by omega
      have ho1 : (0 : Int) ≤ (ds.length : Int) - (off : Int) := by omega
      clear hx hx0 hz hcb hbel hsI hsI2
      by_cases hbig : (ds.length : Int) - (off : Int) < (n0 : Int)
      · obtain ⟨n, hn⟩ : ∃ n : Nat, n = ds.length - off := ⟨_, rfl⟩
        have en : (ds.length : Int) - (off : Int) = (n : Int) := by omega
        have hon : off + n ≤ ds.length := by omega
        have hon2 : (off : Int) + (n : Int) ≤ 65536 := by omega
        have hbn : (n : Int) < (n0 : Int) := by omega
        have hcut := fun W => cut_lh q ds.length ds.length off n W hon
        have hws := (by obtain ⟨_, _, _, _, _, _, _, _, _, _, h, _⟩ := HK.out; exact h : Below w2.heap.size w2 wo)
        have hadd := HK.out.add hon hs (cut_src (HROW.out.old hws) hon)
        have HADD := Lib.hid hadd
        clear hbig hadd hws hn
        go_wp2_with (fail)
        refine HADD.out.mono ?_
        rintro e w7 ⟨rfl, hk7⟩
        obtain ⟨pS, cS, hcur, _, _⟩ := hk7.ends hon
        have HCUR := Lib.hid (hcur w7 (Below.refl _ _))
        have HK7 := Lib.hid hk7
        clear hcur hk7 HADD hcut
        go_wp2_with (fail)
        refine HCUR.out.mono ?_
        rintro e w' ⟨rfl, k7, rfl⟩
        go_wp2
        go_roundw
        case rel => exact ⟨i + 1, off + n, hlt, hon, by go_num, by go_num, Lib.hid (HK7.out.keep (below_drewN (Below.refl _ _)))⟩
        case measure => simp [intOf]; omega
      · obtain ⟨n, hnn⟩ : ∃ n : Nat, n = n0 := ⟨n0, rfl⟩
        subst hnn
        have hon : off + n ≤ ds.length := by omega
        have hon2 : (off : Int) + (n : Int) ≤ 65536 := by omega
        have hbn : (n : Int) ≤ (ds.length : Int) - (off : Int) := by omega
        have hcut := fun W => cut_lh q ds.length ds.length off n W hon
        have hws := (by obtain ⟨_, _, _, _, _, _, _, _, _, _, h, _⟩ := HK.out; exact h : Below w2.heap.size w2 wo)
        have hadd := HK.out.add hon hs (cut_src (HROW.out.old hws) hon)
        have HADD := Lib.hid hadd
        clear hbig hadd hws
        go_wp2_with (fail)
        refine HADD.out.mono ?_
        rintro e w7 ⟨rfl, hk7⟩
        obtain ⟨pS, cS, hcur, _, _⟩ := hk7.ends hon
        have HCUR := Lib.hid (hcur w7 (Below.refl _ _))
        have HK7 := Lib.hid hk7
        clear hcur hk7 HADD hcut
        go_wp2_with (fail)
        refine HCUR.out.mono ?_
        rintro e w' ⟨rfl, k7, rfl⟩
        go_wp2
        go_roundw
        case rel => exact ⟨i + 1, off + n, hlt, hon, by go_num, by go_num, Lib.hid (HK7.out.keep (below_drewN (Below.refl _ _)))⟩
        case measure => simp [intOf]; omega
    · obtain rfl : i = xs.length := by omega
      obtain ⟨pS, cS, hcur, hrS, hlev⟩ := HK.out.ends hoff
      have hbel : Below w2.heap.size w2 wo := by obtain ⟨_, _, _, _, _, _, _, _, _, _, h, _⟩ := HK.out; exact h
      have hbs : w2.heap.size ≤ wo.heap.size := hbel.size
      have hrD := RowAt.take (HROW.out.old hbel) hoff
      have hcut := fun W => cut_h q ds.length ds.length off W hoff HQ0.out
      have HEQ : Hid (∀ W, Below wo.heap.size wo W → Calls Tryf.prog 21 #[.slice pS off cS, .slice q off ds.length] W fun e w' => e = .returned (.bool true) ∧ Below W.heap.size W w') := Lib.hid (fun W hW => by
        refine (zzEqual pS q off cS off ds.length (ds.take off) (ds.take off) W (hrS.old hW) (hrD.old hW) (by omega)).mono ?_
        rintro e w' ⟨rfl, h2⟩
        exact ⟨by simp, h2⟩)
      have HCUR := Lib.hid hcur
      have HLEV := Lib.hid hlev
      have HRD := Lib.hid hrD
      have HBEL := Lib.hid hbel
      clear hcur hrS hlev hbel hrD hsI hsI2
      go_wp2
      go_region_held3 (fun _ => True) (trivial)
        (first | (go_at_call 17; refine (HCUR.out _ (by exact below_drewN (Below.refl _ _))).mono ?_; rintro e w' ⟨rfl, k7, rfl⟩) | (go_at_call 21; refine (HEQ.out _ (by exact below_drewN (Below.refl _ _))).mono ?_; rintro e w7 ⟨rfl, hb7⟩))
      have hb67 : Below wo.heap.size wo w7 := ⟨hb7.os, hb7.tape, hb7.output, hb7.size, hb7.block⟩
      have HB67 := Lib.hid hb67
      have HLV := Lib.hid (HLEV.out w7 hb67)
      clear hb7 hb67 HLEV HCUR HEQ
      go_wp2_with (fail)
      refine HLV.out.mono ?_
      rintro e w8 ⟨rfl, hr8, ⟨F8, t8, s8, hcs8, hx8⟩, hb8⟩
      have hr8D : RowAt w8 q off (ds.take off) := by
        have h := HRD.out
        rcases h with h | ⟨x, h1, h2, h3⟩
        · exact .inl h
        · refine .inr ⟨x, h1, h2, fun j hj => ?_⟩
          have hlw : (x.add j).block < w2.heap.size := by
            rcases HROW.out with ⟨e1, _⟩ | ⟨y, e1, e2, e3⟩
            · rw [h1] at e1; cases e1
            · rw [h1] at e1; cases e1
              have hj' : j < ds.length := by simp at hj; omega
              exact World.block_lt_of_cell? w2 _ (e3 j hj')
          have h4 : wo.cell? (x.add j) = _ := h3 j hj
          exact (hb8.cell hlw).trans h4
      have HEQ8 : Hid (Calls Tryf.prog 21 #[.slice pS off cS, .slice q off ds.length] w8 fun e w' => e = .returned (.bool true) ∧ Below w8.heap.size w8 w') := Lib.hid (by
        refine (zzEqual pS q off cS off ds.length (ds.take off) (ds.take off) w8 hr8 hr8D (by omega)).mono ?_
        rintro e w' ⟨rfl, h2⟩
        exact ⟨by simp, h2⟩)
      obtain ⟨g8, cap8, _, hN8⟩ := hcs8.sc
      obtain ⟨p8, c8, e8, r8⟩ := row_bytes hN8.last hx8 rfl
      have HZ8 : Hid (∀ W, Below w8.heap.size w8 W → Calls Tryf.prog 17 #[.pointer (some ⟨C, 0, none⟩)] W fun e w' => e = .returned (.slice p8 1 c8) ∧ ∃ k, w' = W.drewN k) := Lib.hid (fun W hb => by
        have := zCurI F8 C [t8] [] s8 W (hcs8.turned (G := fun _ => False) ⟨hb.os, hb.tape, hb.output, hb.size, fun k hk _ => hb.block k hk⟩ (fun _ _ h => h)) (by simp)
        rwa [e8] at this)
      have HB8 : Hid (Below w.heap.size w w8) := Lib.hid (HB2.out.trans ((HBEL.out.trans hb8).mono HB2.out.size))
      obtain ⟨x8, rfl, _, h8⟩ : ∃ x, p8 = some x ∧ True ∧ w8.cell? x = some (.int .u8 7) := by
        rcases r8 with ⟨_, h, _⟩ | ⟨x, h1, _, h3⟩
        · simp at h
        · exact ⟨x, h1, trivial, by simpa [Addr.add] using h3 0 (by simp)⟩
      have H8 := Lib.hid h8
      clear hr8 hcs8 hx8 hb8 hr8D hN8 e8 r8 h8 HLV
      go_wp2_with (fail)
      refine HEQ8.out.mono ?_
      rintro e w9 ⟨rfl, hb9⟩
      have HZ9 := Lib.hid (HZ8.out w9 hb9)
      have h9 : w9.cell? x8 = some (.int .u8 7) := (hb9.cell (World.block_lt_of_cell? w8 _ H8.out)).trans H8.out
      have HB9 : Hid (Below w.heap.size w w9) := Lib.hid (HB8.out.trans (hb9.mono HB8.out.size))
      clear hb9 HZ8 HEQ8
      go_wp2_with (fail)
      refine HZ9.out.mono ?_
      rintro e w' ⟨rfl, k9, rfl⟩
      go_wp2
      go_ret
      exact ⟨rfl, below_drewN HB9.out⟩

set_option maxHeartbeats 1000000 in
theorem ackLaw (p p2 : Option Addr) (cap cap2 : Nat) (ds : List UInt8) (xs : List Int) (w : World) (hr : RowAt w p ds.length ds) (hc : p = none → cap = 0) (hr2 : Row16 w p2 xs) (hc2 : p2 = none → cap2 = 0) (hb : ∀ x ∈ xs, 0 ≤ x ∧ x < 65536) (hs : ds.length ≤ 140737488351232) (hs2 : xs.length ≤ 140737488351232) :
    Calls Tryf.prog 5 #[.slice p ds.length cap, .slice p2 xs.length cap2] w fun e w' => e = .returned (.bool true) ∧ Below w.heap.size w w' := by
  by_cases h1 : ds.length ≤ 1048576 ∧ xs.length ≤ 1048576 ∧ ds.length + xs.length ≤ 1048576
  · have hd := guardAck p p2 ds.length cap xs.length cap2 true w hs hs2 (by simpa using h1)
    by_cases h2 : 65536 < ds.length
    · have hI : decide ((65536 : Int) < (ds.length : Int)) = true := by simp; omega
      clear hr hc hr2 hc2 hb hs hs2 h1 h2
      go_enter Tryf.func5, Tryf.ntmps5
      go_wp2_with (fail)
      refine hd.mono ?_
      rintro e w' ⟨rfl, rfl⟩
      go_wp2
      go_ret
      exact ⟨rfl, Below.refl _ _⟩
    by_cases h3 : 4096 < xs.length
    · have hI0 : decide ((65536 : Int) < (ds.length : Int)) = false := by simp; omega
      have hI : decide ((4096 : Int) < (xs.length : Int)) = true := by simp; omega
      clear hr hc hr2 hc2 hb hs hs2 h1 h2 h3
      go_enter Tryf.func5, Tryf.ntmps5
      go_wp2_with (fail)
      refine hd.mono ?_
      rintro e w' ⟨rfl, rfl⟩
      go_wp2
      go_ret
      exact ⟨rfl, Below.refl _ _⟩
    exact ackMain p p2 cap cap2 ds xs w hr hc hr2 hc2 hb (by omega) (by omega)
  · have hd := guardAck p p2 ds.length cap xs.length cap2 false w hs hs2 (by simpa using h1)
    clear hr hc hr2 hc2 hb hs hs2 h1
    go_enter Tryf.func5, Tryf.ntmps5
    go_wp2_with (fail)
    refine hd.mono ?_
    rintro e w' ⟨rfl, rfl⟩
    go_wp2
    go_ret
    exact ⟨rfl, Below.refl _ _⟩
end Go.Proofs.YtiohjlnebeifaaaFmt.Ac
namespace Go.Proofs.YtiohjlnebeifaaaFmt
theorem fnAddedChunksLieEndToEnd.walk (a0 : Option Addr) (len0 cap0 : Nat) (z0 : List Int) (a1 : Option Addr) (len1 cap1 : Nat) (z1 : List Int) (w : World) (w0 : LawFrame.IsRow .u8 1 w a0 len0 cap0 z0) (w1 : LawFrame.IsRow .u16 2 w a1 len1 cap1 z1) :
    Calls Tryf.prog 5 #[.slice a0 len0 cap0, .slice a1 len1 cap1] w fun e w' => e = .returned (.bool true) ∧ RowKit.Below w.heap.size w w' := by
  obtain ⟨bs, h1, h2, _, h4⟩ := Go.Fmt.rowAt_of w0
  obtain rfl := h1.len
  obtain ⟨xs, k1, rfl, k3, k4, k5⟩ := Ac.row16_of w1
  exact Ac.ackLaw a0 a1 cap0 cap1 bs xs w h1 h2 k1 k3 k5 h4 k4
end Go.Proofs.YtiohjlnebeifaaaFmt
