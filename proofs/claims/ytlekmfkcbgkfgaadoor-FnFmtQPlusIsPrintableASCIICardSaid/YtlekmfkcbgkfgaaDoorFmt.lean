/- A formatter in memory, and its methods pad and padString: the text padded to the width is added behind what the buffer holds. -/
import Derived.Test.YtlekmfkcbgkfgaaDoorWriteB
import Derived.Deep.RegionHeld3
namespace Go.Proofs.YtlekmfkcbgkfgaaDoor.Fm
open Go.ChangeShapes Go.WideShapes Go.ChangeAt Go.RowKit Go.Fmt

structure Flags where
  widP : Bool
  precP : Bool
  minus : Bool
  plus : Bool
  sharp : Bool
  space : Bool
  zero : Bool
  wid : Int
  prec : Int

/-- A formatter lies in block F: its buffer is the cell 'a', its flags are 'f', its scratch array is there; none of its cells is frozen. -/
structure FmtAt (w : World) (F : Nat) (a : Addr) (f : Flags) : Prop where
  buf : w.cell? ⟨F, 0, none⟩ = some (.pointer (some a))
  widP : w.cell? ⟨F, 1, none⟩ = some (.bool f.widP)
  precP : w.cell? ⟨F, 2, none⟩ = some (.bool f.precP)
  minus : w.cell? ⟨F, 3, none⟩ = some (.bool f.minus)
  plus : w.cell? ⟨F, 4, none⟩ = some (.bool f.plus)
  sharp : w.cell? ⟨F, 5, none⟩ = some (.bool f.sharp)
  space : w.cell? ⟨F, 6, none⟩ = some (.bool f.space)
  zero : w.cell? ⟨F, 7, none⟩ = some (.bool f.zero)
  wid : w.cell? ⟨F, 13, none⟩ = some (.int .i64 f.wid)
  prec : w.cell? ⟨F, 14, none⟩ = some (.int .i64 f.prec)
  scratch : ∀ j, 15 ≤ j → j < 83 → ∃ v, w.cell? ⟨F, j, none⟩ = some v
  frz : ∀ j, w.frozen? ⟨F, j, none⟩ = false

theorem FmtAt.keep {w w' : World} {F : Nat} {a : Addr} {f : Flags} (h : FmtAt w F a f) (hc : ∀ j, w'.cell? ⟨F, j, none⟩ = w.cell? ⟨F, j, none⟩) (hf : ∀ j, w'.frozen? ⟨F, j, none⟩ = w.frozen? ⟨F, j, none⟩) : FmtAt w' F a f :=
  ⟨(hc 0).trans h.buf, (hc 1).trans h.widP, (hc 2).trans h.precP, (hc 3).trans h.minus, (hc 4).trans h.plus, (hc 5).trans h.sharp, (hc 6).trans h.space, (hc 7).trans h.zero, (hc 13).trans h.wid, (hc 14).trans h.prec,
    fun j h1 h2 => by rw [hc j]; exact h.scratch j h1 h2, fun j => (hf j).trans (h.frz j)⟩
theorem FmtAt.kept {w w' : World} {F base : Nat} {a : Addr} {f : Flags} (h : FmtAt w F a f) (hk : Kept base a w w') (hF : F < base) (hne : F ≠ a.block) : FmtAt w' F a f :=
  h.keep (fun _ => hk.cellAt hF (fun e => hne (by rw [← e]))) (fun _ => hk.frozenAt hF)
theorem FmtAt.below {w w' : World} {F B : Nat} {a : Addr} {f : Flags} (h : FmtAt w F a f) (hb : Below B w w') (hF : F < B) : FmtAt w' F a f :=
  h.keep (fun _ => hb.cell hF) (fun _ => hb.frozen hF)

/-- A formatter of the call's own: it and its buffer lie from block N on. -/
structure Live (w : World) (N base F B : Nat) (f : Flags) (bs : List UInt8) : Prop where
  lf : N ≤ F
  lb : N ≤ B
  ne : F ≠ B
  hf : F < base
  maxl : 0 < N
  fmt : FmtAt w F ⟨B, 0, none⟩ f
  buf : Buf 5 w base ⟨B, 0, none⟩ bs

theorem Live.grow {w w' : World} {N base F B : Nat} {f : Flags} {bs : List UInt8} (h : Live w N base F B f bs) (hb : Below w.heap.size w w') : Live w' N base F B f bs :=
  ⟨h.lf, h.lb, h.ne, h.hf, h.maxl, h.fmt.below hb (Nat.lt_of_lt_of_le h.hf h.buf.base_le), h.buf.grow hb⟩
theorem Live.kept {w w' : World} {N base F B : Nat} {f : Flags} {bs bs' : List UInt8} (h : Live w N base F B f bs) (hb : Buf 5 w' base ⟨B, 0, none⟩ bs') (hk : Kept base ⟨B, 0, none⟩ w w') : Live w' N base F B f bs' ∧ Below N w w' :=
  ⟨⟨h.lf, h.lb, h.ne, h.hf, h.maxl, h.fmt.kept hk h.hf h.ne, hb⟩, hk.below (Nat.le_trans h.lf (Nat.le_of_lt h.hf)) h.lb⟩
theorem Live.setScratch {w : World} {N base F B : Nat} {f : Flags} {bs : List UInt8} (h : Live w N base F B f bs) (o : Nat) (vs : List Value) (h1 : 15 ≤ o) : Live (w.setCells F o vs) N base F B f bs ∧ Below N w (w.setCells F o vs) := by
  have hc : ∀ j, j < 15 → (w.setCells F o vs).cell? ⟨F, j, none⟩ = w.cell? ⟨F, j, none⟩ := fun j hj => World.cell?_setCells_out F vs o w ⟨F, j, none⟩ (fun _ _ => .inl (by show j < o; omega))
  have q := h.fmt
  refine ⟨⟨h.lf, h.lb, h.ne, h.hf, h.maxl, ?_, h.buf.of_same h.hf h.ne (setCells_size _ _ _ _) (fun k _ hk => setCells_block F hk vs o w)⟩, setCells_below h.lf vs o (Below.refl _ _)⟩
  exact ⟨(hc 0 (by omega)).trans q.buf, (hc 1 (by omega)).trans q.widP, (hc 2 (by omega)).trans q.precP, (hc 3 (by omega)).trans q.minus, (hc 4 (by omega)).trans q.plus, (hc 5 (by omega)).trans q.sharp, (hc 6 (by omega)).trans q.space, (hc 7 (by omega)).trans q.zero, (hc 13 (by omega)).trans q.wid, (hc 14 (by omega)).trans q.prec,
    fun j a1 a2 => setCells_some F vs o w _ (q.scratch j a1 a2), fun j => by rw [World.frozen?_setCells]; exact q.frz j⟩
theorem maxl_below {w w' : World} {N : Nat} (hb : Below N w w') (hN : 0 < N) (hg1 : w.cell? ⟨0, 0, none⟩ = some (.int .i64 2147483647)) : w'.cell? ⟨0, 0, none⟩ = some (.int .i64 2147483647) := (hb.cell hN).trans hg1

/-- The text 'cs' padded as a formatter pads it. -/
def padded (f : Flags) (cs : List UInt8) : List UInt8 :=
  if f.widP = false ∨ f.wid = 0 then cs
  else if f.minus then cs ++ List.replicate (f.wid - rcount cs).toNat (padByte f.zero)
  else List.replicate (f.wid - rcount cs).toNat (padByte f.zero) ++ cs

theorem padded_length (f : Flags) (cs : List UInt8) : ((padded f cs).length : Int) ≤ cs.length + max f.wid 0 := by
  unfold padded
  split
  · omega
  split
  · simp; omega
  · simp; omega

set_option maxRecDepth 100000 in
set_option maxHeartbeats 1000000 in
theorem pad0 (F base : Nat) (a : Addr) (f : Flags) (bs cs : List UInt8) (p : Option Addr) (c : Nat) (w : World) (hf : FmtAt w F a f) (hb : Buf 5 w base a bs) (hs : Src w base a.block p cs) (hc0 : p = none → c = 0)
    (hg1 : w.cell? ⟨0, 0, none⟩ = some (.int .i64 2147483647)) (hlen : bs.length + cs.length ≤ 2147483647) (hw : f.widP = false ∨ f.wid = 0) :
    Calls Tryd.prog 10 #[.pointer (some ⟨F, 0, none⟩), .slice p cs.length c] w fun e w' => e = .returned (.tuple #[]) ∧ Buf 5 w' base a (bs ++ cs) ∧ Kept base a w w' := by
  have hC := Lib.hid (write a base bs cs p c w hb hs hc0 hg1 hlen)
  have q0 := hf.buf
  have q1 := hf.widP
  have q2 := hf.wid
  clear hg1
  by_cases h1 : f.widP = false
  · rw [h1] at q1
    go_enter Tryd.func10, Tryd.ntmps10
    go_wp2_with (fail)
    refine hC.out.mono ?_
    rintro e w' ⟨rfl, h3, h4⟩
    go_wp2
    try simp only [Exit.inBlock, Exit.then]
    refine bodyPost_ret (results_none rfl _ _ _) rfl ?_
    exact ⟨rfl, h3, h4⟩
  · have h2 : f.wid = 0 := hw.resolve_left h1
    rw [Bool.not_eq_false] at h1
    rw [h1] at q1
    rw [h2] at q2
    go_enter Tryd.func10, Tryd.ntmps10
    go_wp2_with (fail)
    refine hC.out.mono ?_
    rintro e w' ⟨rfl, h3, h4⟩
    go_wp2
    try simp only [Exit.inBlock, Exit.then]
    refine bodyPost_ret (results_none rfl _ _ _) rfl ?_
    exact ⟨rfl, h3, h4⟩

set_option maxRecDepth 100000 in
set_option maxHeartbeats 1000000 in
theorem padLeft (F base : Nat) (a : Addr) (f : Flags) (bs cs : List UInt8) (p : Option Addr) (c : Nat) (w : World) (hf : FmtAt w F a f) (hb : Buf 5 w base a bs) (hs : Src w base a.block p cs) (hc0 : p = none → c = 0) (hc1 : cs.length ≤ c)
    (hg1 : w.cell? ⟨0, 0, none⟩ = some (.int .i64 2147483647)) (hF : F < base) (hFa : F ≠ a.block) (hM : 0 < base) (hMa : a.block ≠ 0) (hl : bs.length + cs.length ≤ 1073741824) (hwl : -1073741824 ≤ f.wid) (hwl2 : f.wid ≤ 1073741823) (hw1 : f.widP = true) (hw2 : f.wid ≠ 0) (hm : f.minus = false) :
    Calls Tryd.prog 10 #[.pointer (some ⟨F, 0, none⟩), .slice p cs.length c] w fun e w' => e = .returned (.tuple #[]) ∧ Buf 5 w' base a (bs ++ (List.replicate (f.wid - rcount cs).toNat (padByte f.zero) ++ cs)) ∧ Kept base a w w' := by
  have hrc := rcount_le cs
  have q0 := hf.buf
  have q1 := hf.widP
  have q2 := hf.wid
  have q3 := hf.minus
  rw [hw1] at q1
  rw [hm] at q3
  have hb2 : (f.wid == 0) = false := beq_eq_false_iff_ne.2 hw2
  have hR := Lib.hid (fun w' (h : Src w' base a.block p cs) => runeCount base a.block cs p c w' h hc0 hc1 (by omega))
  have hFw : F < w.heap.size := Nat.lt_of_lt_of_le hF hb.base_le
  go_enter Tryd.func10, Tryd.ntmps10
  go_wp2_with (fail)
  go_region_held3 (fun w' => w'.cell? ⟨F, 13, none⟩ = some (.int .i64 f.wid)) (first | exact q2 | exact (hb1.cell (p := ⟨F, 13, none⟩) hFw).trans q2)
    (first | (go_at_call 18; refine (hR.out _ (by exact hs)).mono ?_; rintro e w1 ⟨rfl, hb1⟩))
  rw [show IntKind.i64.wrap (f.wid - (rcount cs : Int)) = f.wid - rcount cs from IntWalk.i64_in _ (by omega)]
  have hbw : Below w.heap.size w w1 := ⟨hb1.os, hb1.tape, hb1.output, hb1.size, hb1.block⟩
  have hf1 := hf.below hbw hFw
  have hB1 := hb.grow hbw
  have hK1 : Kept base a w w1 := Kept.of_below hbw hb.base_le hb.lt
  have hs1 := hs.kept hK1
  have hm1 := (hK1.cellAt (c := ⟨0, 0, none⟩) hM (fun e => hMa (by rw [← e]))).trans hg1
  have hP := Lib.hid (writePadding F base a f.zero (f.wid - rcount cs) bs w1 hB1 hm1 hf1.buf hf1.zero hF (by omega))
  have r0 := hf1.buf
  have r3 := hf1.minus
  rw [hm] at r3
  clear q0 q1 q2 q3 hg1 hR
  go_wp2_with (fail)
  refine hP.out.mono ?_
  rintro e w2 ⟨rfl, hB2, hK2⟩
  have hf2 := hf1.kept hK2 hF hFa
  have hs2 := hs1.kept hK2
  have hm2 := (hK2.cellAt (c := ⟨0, 0, none⟩) hM (fun e => hMa (by rw [← e]))).trans hm1
  have hW := Lib.hid (write a base _ cs p c w2 hB2 hs2 hc0 hm2 (by simp; omega))
  have t0 := hf2.buf
  clear r0 r3 hP hm1
  go_wp2_with (fail)
  refine hW.out.mono ?_
  rintro e w3 ⟨rfl, hB3, hK3⟩
  go_wp2
  go_end0
  refine ⟨rfl, ?_, hK1.trans (hK2.trans hK3)⟩
  rw [← List.append_assoc]
  exact hB3

set_option maxRecDepth 100000 in
set_option maxHeartbeats 1000000 in
theorem padRight (F base : Nat) (a : Addr) (f : Flags) (bs cs : List UInt8) (p : Option Addr) (c : Nat) (w : World) (hf : FmtAt w F a f) (hb : Buf 5 w base a bs) (hs : Src w base a.block p cs) (hc0 : p = none → c = 0) (hc1 : cs.length ≤ c)
    (hg1 : w.cell? ⟨0, 0, none⟩ = some (.int .i64 2147483647)) (hF : F < base) (hFa : F ≠ a.block) (hM : 0 < base) (hMa : a.block ≠ 0) (hl : bs.length + cs.length ≤ 1073741824) (hwl : -1073741824 ≤ f.wid) (hwl2 : f.wid ≤ 1073741823) (hw1 : f.widP = true) (hw2 : f.wid ≠ 0) (hm : f.minus = true) :
    Calls Tryd.prog 10 #[.pointer (some ⟨F, 0, none⟩), .slice p cs.length c] w fun e w' => e = .returned (.tuple #[]) ∧ Buf 5 w' base a (bs ++ (cs ++ List.replicate (f.wid - rcount cs).toNat (padByte f.zero))) ∧ Kept base a w w' := by
  have hrc := rcount_le cs
  have q0 := hf.buf
  have q1 := hf.widP
  have q2 := hf.wid
  have q3 := hf.minus
  rw [hw1] at q1
  rw [hm] at q3
  have hb2 : (f.wid == 0) = false := beq_eq_false_iff_ne.2 hw2
  have hR := Lib.hid (fun w' (h : Src w' base a.block p cs) => runeCount base a.block cs p c w' h hc0 hc1 (by omega))
  have hFw : F < w.heap.size := Nat.lt_of_lt_of_le hF hb.base_le
  go_enter Tryd.func10, Tryd.ntmps10
  go_wp2_with (fail)
  go_region_held3 (fun w' => w'.cell? ⟨F, 13, none⟩ = some (.int .i64 f.wid)) (first | exact q2 | exact (hb1.cell (p := ⟨F, 13, none⟩) hFw).trans q2)
    (first | (go_at_call 18; refine (hR.out _ (by exact hs)).mono ?_; rintro e w1 ⟨rfl, hb1⟩))
  rw [show IntKind.i64.wrap (f.wid - (rcount cs : Int)) = f.wid - rcount cs from IntWalk.i64_in _ (by omega)]
  have hbw : Below w.heap.size w w1 := ⟨hb1.os, hb1.tape, hb1.output, hb1.size, hb1.block⟩
  have hf1 := hf.below hbw hFw
  have hB1 := hb.grow hbw
  have hK1 : Kept base a w w1 := Kept.of_below hbw hb.base_le hb.lt
  have hs1 := hs.kept hK1
  have hm1 := (hK1.cellAt (c := ⟨0, 0, none⟩) hM (fun e => hMa (by rw [← e]))).trans hg1
  have hW := Lib.hid (write a base bs cs p c w1 hB1 hs1 hc0 hm1 (by omega))
  have r0 := hf1.buf
  have r3 := hf1.minus
  rw [hm] at r3
  clear q0 q1 q2 q3 hg1 hR
  go_wp2_with (fail)
  refine hW.out.mono ?_
  rintro e w2 ⟨rfl, hB2, hK2⟩
  have hf2 := hf1.kept hK2 hF hFa
  have hm2 := (hK2.cellAt (c := ⟨0, 0, none⟩) hM (fun e => hMa (by rw [← e]))).trans hm1
  have hP := Lib.hid (writePadding F base a f.zero (f.wid - rcount cs) (bs ++ cs) w2 hB2 hm2 hf2.buf hf2.zero hF (by simp; omega))
  clear r0 r3 hW hm1
  go_wp2_with (fail)
  refine hP.out.mono ?_
  rintro e w3 ⟨rfl, hB3, hK3⟩
  go_wp2
  go_end0
  refine ⟨rfl, ?_, hK1.trans (hK2.trans hK3)⟩
  rw [← List.append_assoc]
  exact hB3

theorem pad (F base : Nat) (a : Addr) (f : Flags) (bs cs : List UInt8) (p : Option Addr) (c : Nat) (w : World) (hf : FmtAt w F a f) (hb : Buf 5 w base a bs) (hs : Src w base a.block p cs) (hc0 : p = none → c = 0) (hc1 : cs.length ≤ c)
    (hg1 : w.cell? ⟨0, 0, none⟩ = some (.int .i64 2147483647)) (hF : F < base) (hFa : F ≠ a.block) (hM : 0 < base) (hMa : a.block ≠ 0) (hl : bs.length + cs.length ≤ 1073741824) (hwl : -1073741824 ≤ f.wid) (hwl2 : f.wid ≤ 1073741823) :
    Calls Tryd.prog 10 #[.pointer (some ⟨F, 0, none⟩), .slice p cs.length c] w fun e w' => e = .returned (.tuple #[]) ∧ Buf 5 w' base a (bs ++ padded f cs) ∧ Kept base a w w' := by
  unfold padded
  by_cases h : f.widP = false ∨ f.wid = 0
  · rw [if_pos h]
    exact pad0 F base a f bs cs p c w hf hb hs hc0 hg1 (by omega) h
  · rw [if_neg h]
    have h1 : f.widP = true := by simpa using fun e => h (.inl e)
    have h2 : f.wid ≠ 0 := fun e => h (.inr e)
    by_cases hm : f.minus = true
    · rw [if_pos hm]
      exact padRight F base a f bs cs p c w hf hb hs hc0 hc1 hg1 hF hFa hM hMa hl hwl hwl2 h1 h2 hm
    · rw [if_neg hm]
      exact padLeft F base a f bs cs p c w hf hb hs hc0 hc1 hg1 hF hFa hM hMa hl hwl hwl2 h1 h2 (by simpa using hm)


theorem size_list (t : ByteArray) : t.data.toList.length = t.size := by rw [Array.length_toList]; rfl
theorem padLive (N base F B : Nat) (f : Flags) (bs cs : List UInt8) (p : Option Addr) (c : Nat) (w : World) (h : Live w N base F B f bs) (hs : Src w base B p cs) (hc0 : p = none → c = 0) (hc1 : cs.length ≤ c) (hg1 : w.cell? ⟨0, 0, none⟩ = some (.int .i64 2147483647))
    (hl : bs.length + cs.length ≤ 1073741824) (hwl : -1073741824 ≤ f.wid) (hwl2 : f.wid ≤ 1073741823) :
    Calls Tryd.prog 10 #[.pointer (some ⟨F, 0, none⟩), .slice p cs.length c] w fun e w' => e = .returned (.tuple #[]) ∧ Live w' N base F B f (bs ++ padded f cs) ∧ Below N w w' := by
  refine (pad F base ⟨B, 0, none⟩ f bs cs p c w h.fmt h.buf hs hc0 hc1 hg1 h.hf h.ne (Nat.lt_of_lt_of_le h.maxl (Nat.le_trans h.lf (Nat.le_of_lt h.hf))) (Nat.ne_of_gt (Nat.lt_of_lt_of_le h.maxl h.lb)) hl hwl hwl2).mono ?_
  rintro e w' ⟨he, h1, h2⟩
  exact ⟨he, h.kept h1 h2⟩
end Go.Proofs.YtlekmfkcbgkfgaaDoor.Fm
