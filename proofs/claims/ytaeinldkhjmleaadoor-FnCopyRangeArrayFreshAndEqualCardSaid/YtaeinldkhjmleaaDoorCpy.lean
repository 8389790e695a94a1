/- The copy of an array as the laws call it, and what they read of an array. -/
import Derived.Test.YtaeinldkhjmleaaDoorRng
namespace Go.Proofs.YtaeinldkhjmleaaDoor.Rg
open Go.ChangeShapes Go.WideShapes Go.ChangeAt Go.RowKit Go.Blk

theorem m_acopy (a : Addr) (w : World) : (method 192 32 (.pointer (some a)) "Copy").run Tryd.prog w = .ok (35, .pointer (some a)) w := by kernel_rfl
theorem ta_arr (a : Addr) (w : World) : (Instr.typeAssert (.iface 32 (.pointer (some a))) 35 32 true).run Tryd.prog w = .ok (.tuple #[.pointer (some a), .bool true]) w := by kernel_rfl
theorem ta_int (a : Addr) (w : World) : (Instr.typeAssert (.iface 50 (.pointer (some a))) 35 50 true).run Tryd.prog w = .ok (.tuple #[.pointer (some a), .bool true]) w := by kernel_rfl
theorem infoArr : (Tryd.prog.info? 33).map (·.size) = some 1 := by kernel_rfl
theorem infoInt : (Tryd.prog.info? 52).map (·.size) = some 1 := by kernel_rfl
theorem arr_ne {w : World} {a b : Nat} {x y : List Value} {t u : TypeId} (ha : Blk w a t x) (hb : Blk w b u y) (hne : a ≠ b) : (binOp .eql 32 (.pointer (some ⟨a, 0, none⟩)) (.pointer (some ⟨b, 0, none⟩))).run Tryd.prog w = .ok (.bool false) w := by
  obtain ⟨j, hj, hs⟩ := Option.map_eq_some_iff.1 infoArr
  exact run_eql_ptr_other w Tryd.underlying32 hj (by omega) (fun e => hne (congrArg Addr.block e)) ha hb
theorem int_ne {w : World} {a b : Nat} {x y : List Value} {t u : TypeId} (ha : Blk w a t x) (hb : Blk w b u y) (hne : a ≠ b) : (binOp .eql 50 (.pointer (some ⟨a, 0, none⟩)) (.pointer (some ⟨b, 0, none⟩))).run Tryd.prog w = .ok (.bool false) w := by
  obtain ⟨j, hj, hs⟩ := Option.map_eq_some_iff.1 infoInt
  exact run_eql_ptr_other w Tryd.underlying50 hj (by omega) (fun e => hne (congrArg Addr.block e)) ha hb

/-- A copy: a new array of new objects of the same values. -/
def CopyA (w : World) (vs : List Int) (f : Nat → Ending) (e : Ending) (w' : World) : Prop :=
  ∃ B q cap cs, e = f B ∧ w.heap.size ≤ B ∧ ArrO w' B q cap cs vs ∧ (∀ c ∈ cs, w.heap.size ≤ c) ∧ Below w.heap.size w w'

theorem zRange (s t : Int) (vs : List Int) (w : World) (h : Calls Tryd.prog 16 #[.int .i64 s, .int .i64 t, .int .i64 1] w (NewRng w vs)) : Calls Tryd.prog 11 #[.int .i64 s, .int .i64 t, .int .i64 1] w (NewRng w vs) := by
  have HC := Lib.hid h
  clear h
  go_enter Tryd.func11, Tryd.ntmps11
  go_wp2_with (fail)
  refine HC.out.mono ?_
  rintro e w' ⟨B, q, cap, bs, rfl, h1, h2, h3⟩
  go_wp2
  go_ret
  exact ⟨B, q, cap, bs, rfl, h1, h2, h3⟩

set_option maxHeartbeats 1000000 in
theorem bCopy (X B cap : Nat) (q : Option Addr) (bs : List Nat) (vs : List Int) (w : World) (hx : w.cell? ⟨X, 0, none⟩ = some (.iface 32 (.pointer (some ⟨B, 0, none⟩)))) (h : ArrO w B q cap bs vs) (hl : vs.length ≤ 1048576) :
    Calls Tryd.prog 17 #[.slice (some ⟨X, 0, none⟩) 1 1] w (CopyA w vs (fun B => .returned (.tuple #[.iface 32 (.pointer (some ⟨B, 0, none⟩)), .nilIface]))) := by
  have hm := m_acopy
  have HC := Lib.hid (arrCopy B cap q bs vs w (h.blk.cell? 0) h.row h.ints hl)
  clear h
  go_enter Tryd.func17, Tryd.ntmps17
  go_wp2_with (fail)
  refine HC.out.mono ?_
  rintro e w' ⟨B', q', cap', cs, rfl, h1, h2, h3, h4, h5, h6, h7⟩
  go_wp2
  go_ret2
  exact ⟨B', q', cap', cs, rfl, h1, ⟨h3, own_row h4, h5⟩, h6, h7⟩

set_option maxHeartbeats 1000000 in
theorem zCopy (B cap : Nat) (q : Option Addr) (bs : List Nat) (vs : List Int) (w : World) (h : ArrO w B q cap bs vs) (hl : vs.length ≤ 1048576) :
    Calls Tryd.prog 12 #[.pointer (some ⟨B, 0, none⟩)] w (CopyA w vs (fun B => .returned (.tuple #[.pointer (some ⟨B, 0, none⟩), .bool true, .bool false]))) := by
  have ta := ta_arr
  have hb : Below w.heap.size w (w.alloc (.cells #[.iface 32 (.pointer (some ⟨B, 0, none⟩))] 35)) := (Below.refl _ _).alloc (Nat.le_refl _) _
  have hsz : (w.alloc (.cells #[.iface 32 (.pointer (some ⟨B, 0, none⟩))] 35)).heap.size = w.heap.size + 1 := by simp
  have HC := Lib.hid (bCopy w.heap.size B cap q bs vs _ ((blk_alloc w [.iface 32 (.pointer (some ⟨B, 0, none⟩))] 35).cell? 0) (h.old hb) hl)
  have HB := Lib.hid hb
  have HZ := Lib.hid hsz
  clear h hb hsz
  go_enter Tryd.func12, Tryd.ntmps12
  go_wp2_with (fail)
  refine HC.out.mono ?_
  rintro e w' ⟨B', q', cap', cs, rfl, h1, h2, h3, h4⟩
  rw [HZ.out] at h1
  have HA := Lib.hid (And.intro h2 (And.intro h3 h4))
  clear h2 h3 h4
  go_wp2
  go_quiet (fail)
  go_wp2
  go_ret3
  have hb2 : Below w.heap.size w w' := HB.out.trans (HA.out.2.2.mono (by rw [HZ.out]; omega))
  exact ⟨B', q', cap', cs, rfl, by omega, ⟨HA.out.1.blk, HA.out.1.row, HA.out.1.ints⟩, fun c hc => by have := HA.out.2.1 c hc; rw [HZ.out] at this; omega, ⟨hb2.os, hb2.tape, hb2.output, hb2.size, hb2.block⟩⟩

theorem zLen (B cap : Nat) (q : Option Addr) (bs : List Nat) (vs : List Int) (w : World) (h : ArrO w B q cap bs vs) : Calls Tryd.prog 13 #[.pointer (some ⟨B, 0, none⟩)] w fun e w' => e = .returned (.int .i64 vs.length) ∧ w = w' := by
  have hc : w.cell? ⟨B, 0, none⟩ = some (.slice q vs.length cap) := h.blk.cell? 0
  clear h
  go_enter Tryd.func13, Tryd.ntmps13
  go_wp2
  go_ret
  exact ⟨rfl, rfl⟩
set_option maxHeartbeats 1000000 in
theorem zAt (B cap : Nat) (q : Option Addr) (bs : List Nat) (vs : List Int) (j : Nat) (w : World) (h : ArrO w B q cap bs vs) (hj : j < vs.length) (_hl : vs.length ≤ 1048576) : Calls Tryd.prog 14 #[.pointer (some ⟨B, 0, none⟩), .int .i64 j] w fun e w' => e = .returned (.tuple #[.int .i64 vs[j], .bool true]) ∧ w = w' := by
  have hjb : j < bs.length := by rw [h.ints.1]; exact hj
  obtain ⟨G, hq, hr⟩ := h.row j hjb
  subst hq
  have hc : w.cell? ⟨B, 0, none⟩ = some (.slice (some ⟨G, 0, none⟩) vs.length cap) := h.blk.cell? 0
  have hv : w.cell? ⟨bs[j], 0, none⟩ = some (.int .i64 vs[j]) := (h.ints.2 j hjb hj).cell? 0
  have ta := ta_int
  clear h
  generalize bs[j] = b at *
  generalize vs[j] = v at *
  have s1 : (0 : Int) ≤ (j : Int) := by omega
  have s2 : (j : Int) < (vs.length : Int) := by omega
  go_enter Tryd.func14, Tryd.ntmps14
  go_wp2
  go_ret2
  exact ⟨rfl, rfl⟩
set_option maxHeartbeats 1000000 in
theorem zSame (B B' cap cap' : Nat) (q q' : Option Addr) (bs cs : List Nat) (vs : List Int) (j : Nat) (w : World) (h : ArrO w B q cap bs vs) (h' : ArrO w B' q' cap' cs vs) (hj : j < vs.length) (_hl : vs.length ≤ 1048576) (hne : ∀ x ∈ bs, ∀ y ∈ cs, x ≠ y) :
    Calls Tryd.prog 15 #[.pointer (some ⟨B, 0, none⟩), .pointer (some ⟨B', 0, none⟩), .int .i64 j] w fun e w' => e = .returned (.bool false) ∧ w = w' := by
  have hjb : j < bs.length := by rw [h.ints.1]; exact hj
  have hjc : j < cs.length := by rw [h'.ints.1]; exact hj
  obtain ⟨G, hq, hr⟩ := h.row j hjb
  obtain ⟨G', hq', hr'⟩ := h'.row j hjc
  subst hq hq'
  have hc : w.cell? ⟨B, 0, none⟩ = some (.slice (some ⟨G, 0, none⟩) vs.length cap) := h.blk.cell? 0
  have hc' : w.cell? ⟨B', 0, none⟩ = some (.slice (some ⟨G', 0, none⟩) vs.length cap') := h'.blk.cell? 0
  have heq := int_ne (h.ints.2 j hjb hj) (h'.ints.2 j hjc hj) (hne _ (List.getElem_mem _) _ (List.getElem_mem _))
  have ta := ta_int
  clear h h' hne
  generalize bs[j] = b at *
  generalize cs[j] = b' at *
  have s1 : (0 : Int) ≤ (j : Int) := by omega
  have s2 : (j : Int) < (vs.length : Int) := by omega
  go_enter Tryd.func15, Tryd.ntmps15
  go_wp2
  go_ret
  exact ⟨rfl, rfl⟩
end Go.Proofs.YtaeinldkhjmleaaDoor.Rg
