/- The law FnBytesAddRefusesOtherTypes: its walk. -/
import Derived.Test.YtnjinknpckkioaaDoorAdd
import Derived.Test.YtnjinknpckkioaaDoorEqC
import Derived.Test.YtnjinknpckkioaaDoorCut
namespace Go.Proofs.YtnjinknpckkioaaDoor.Fm
open Go.ChangeShapes Go.WideShapes Go.ChangeAt Go.RowKit Go.Fmt

set_option maxHeartbeats 1000000 in
theorem guardAR (p : Option Addr) (l c : Nat) (s : ByteArray) (n t : Int) (w : World) (hl : l ≤ 140737488351232) (hs : s.size ≤ 140737488351232) :
    Calls Tryd.prog 6 #[.slice p l c, .string s, .int .i64 n, .int .i64 t] w fun e w' => e = .returned (.bool (decide (l + s.size ≤ 1048576))) ∧ w = w' := by
  by_cases h1 : l ≤ 1048576
  · by_cases h2 : s.size ≤ 1048576
    · by_cases h3 : l + s.size ≤ 1048576
      all_goals
        go_enter Tryd.func6, Tryd.ntmps6
        go_wp2
        go_ret
        exact ⟨ret_bool (by simp; omega), rfl⟩
    · go_enter Tryd.func6, Tryd.ntmps6
      go_wp2
      go_ret
      exact ⟨ret_bool (by simp; omega), rfl⟩
  · go_enter Tryd.func6, Tryd.ntmps6
    go_wp2
    go_ret
    exact ⟨ret_bool (by simp; omega), rfl⟩

/-- A value that is no Bytes object. -/
def NoBytes (T : TypeId) (v : Value) : Prop := ∀ w, (Instr.typeAssert (.iface T v) 31 25 true).run Tryd.prog w = .ok (.tuple #[.pointer none, .bool false]) w
theorem noStr (v : Value) : NoBytes 37 v := fun w => by kernel_rfl
theorem noInt (v : Value) : NoBytes 41 v := fun w => by kernel_rfl
theorem noChar (v : Value) : NoBytes 44 v := fun w => by kernel_rfl
theorem noUnd (v : Value) : NoBytes 47 v := fun w => by kernel_rfl
theorem bopRefuse (p v : Value) (T : TypeId) (t : Int) (a : Addr) (w : World) (hT : NoBytes T v) (hg : w.cell? ⟨0, 0, none⟩ = some (.iface 55 (.pointer (some a)))) :
    Calls Tryd.prog 8 #[p, .int .i64 t, .iface T v] w fun e w' => e = .returned (.tuple #[.nilIface, .iface 55 (.pointer (some a))]) ∧ ∃ n, w.drewN n = w' := by
  by_cases ht : t = 11
  · subst ht; exact bopNot p v T a w hT hg
  · exact bopOther p _ t a w ht hg

theorem clone_own {w w1 : World} {p : Option Addr} {bs : List UInt8} {e : Ending} (h : CopyOf w p bs e w1) :
    ∃ q c, e = .returned (.slice q bs.length c) ∧ w1.ownsRow w.heap.size 5 1 (.slice q bs.length c) bs.length (bcells bs) ∧ Below w.heap.size w w1 := by
  rcases h with ⟨rfl, rfl, rfl, rfl⟩ | ⟨g, rfl, hown, hb⟩
  · exact ⟨none, 0, rfl, World.ownsRow_nil _ _ _ _, Below.refl _ _⟩
  · exact ⟨_, _, rfl, hown, hb⟩
theorem own_old {w w' : World} {base n : Nat} {v : Value} {xs : List Value} (h : w.ownsRow base 5 1 v n xs) (hb : Below w.heap.size w w') : w'.ownsRow base 5 1 v n xs :=
  ownsRow_below h fun k hk => hb.block k (h.lt k hk).2
theorem run_partAt00 {P : Program} {w : World} {b t k : Nat} {cs : Array Value} (hb : w.heap[b]? = some (.cells cs t (0, 0))) (hc : P.cellsOf t = 0 ∨ (P.cellsOf t ≠ 0 ∧ byteOfCell P P.depth t 0 = some k)) :
    (partAt ⟨b, 0, none⟩ 0 0).run P w = .ok ⟨b, 0, none⟩ w := by
  rcases hc with hc | hc
  · simp [partAt, byteOf, noView, viewAt, World.shape?, hb, hc]
  · simp [partAt, byteOf, noView, viewAt, World.shape?, hb, hc.1, hc.2]
theorem partU (u : World) (cs : Array Value) (b : Nat) (hb : b = u.heap.size) : (partAt ⟨b, 0, none⟩ 0 0).run Tryd.prog (u.alloc (.cells cs 49)) = .ok ⟨b, 0, none⟩ (u.alloc (.cells cs 49)) := by
  subst hb
  have hh : (u.alloc (.cells cs 49)).heap[u.heap.size]? = some (.cells cs 49 (0, 0)) := by show (u.heap.push (.cells cs 49))[u.heap.size]? = _; simp
  exact run_partAt00 (k := 0) hh (Or.inl (by kernel_rfl))

set_option maxRecDepth 100000 in
set_option maxHeartbeats 4000000 in
theorem arMain (p : Option Addr) (cap : Nat) (bs : List UInt8) (s : ByteArray) (n t : Int) (w : World) (a : Addr) (hr : RowAt w p bs.length bs) (hc : p = none → cap = 0) (hs : bs.length + s.size ≤ 1048576)
    (hg : w.cell? ⟨0, 0, none⟩ = some (.iface 55 (.pointer (some a)))) :
    Calls Tryd.prog 3 #[.slice p bs.length cap, .string s, .int .i64 n, .int .i64 t] w fun e w' => e = .returned (.bool true) ∧ Below w.heap.size w w' := by
  have HG := Lib.hid (decide_eq_true hs)
  have HC := Lib.hid (zzClone p bs.length cap bs w hr (by omega) hc)
  have heq := eql_same
  have hpu := partU
  have hg0 := World.block_lt_of_cell? w _ hg
  clear hr hc
  go_enter Tryd.func3, Tryd.ntmps3
  go_wp2_with (fail)
  refine (guardAR _ _ _ _ _ _ _ (by omega) (by omega)).mono ?_
  rintro e w' ⟨rfl, rfl⟩
  rw [HG.out]
  go_wp2_with (fail)
  refine HC.out.mono ?_
  intro e w1 hcp
  obtain ⟨q, c, rfl, hX1, hb1⟩ := clone_own hcp
  have HX1 := Lib.hid hX1
  have HC2 := Lib.hid (zzClone q bs.length c bs w1 (RowAt.of_own hX1) (by omega) (own_nil hX1))
  clear hcp hX1 HC
  go_wp2_with (fail)
  refine HC2.out.mono ?_
  intro e w2 hcp
  obtain ⟨q2, c2, rfl, hM2, hb2⟩ := clone_own hcp
  have HM2 := Lib.hid hM2
  have HX2 := Lib.hid (own_old HX1.out hb2)
  have hb02 : Below w.heap.size w w2 := hb1.trans (hb2.mono hb1.size)
  have hg2 : w2.cell? ⟨0, 0, none⟩ = some (.iface 55 (.pointer (some a))) := (hb02.cell hg0).trans hg
  have hs2 := hb02.size
  have hg02 : 0 < w2.heap.size := Nat.lt_of_lt_of_le hg0 hs2
  have HCV := Lib.hid (fun w' (hb : Below w2.heap.size w2 w') => row_conv (cap := c2) ((RowAt.of_own HM2.out).old hb))
  clear hcp hM2 HC2 hg hg0
  go_wp2_with ((go_at_call 8; refine (bopRefuse _ _ _ _ a _ (by first | exact noStr _ | exact noInt _ | exact noChar _ | exact noUnd _) ?_).mono ?_; (focus (go_simp; done)); rintro e w' ⟨rfl, n1, rfl⟩))
  rw [HCV.out]
  rotate_left
  · repeat (first | exact Below.refl _ _ | apply below_drewN | refine Below.alloc ?_ (by first | omega | (simp; done) | (simp; omega)) _)
  clear HCV
  go_wp2_with ((go_at_call 8; refine (bopRefuse _ _ _ _ a _ (by first | exact noStr _ | exact noInt _ | exact noChar _ | exact noUnd _) ?_).mono ?_; (focus (go_simp; done)); rintro e w' ⟨rfl, n1, rfl⟩))
  refine (sameBytes _ _ _ _ _ _ bs bs _ ((RowAt.of_own HX2.out).old ?_) ((RowAt.of_own HM2.out).old ?_) (by omega)).mono ?_
  · repeat (first | exact Below.refl _ _ | apply below_drewN | refine Below.alloc ?_ (by first | omega | (simp; done) | (simp; omega)) _)
  · repeat (first | exact Below.refl _ _ | apply below_drewN | refine Below.alloc ?_ (by first | omega | (simp; done) | (simp; omega)) _)
  rintro e w9 ⟨rfl, hb9⟩
  rw [decide_eq_true (rfl : bs = bs)]
  go_wp2
  go_ret
  refine ⟨rfl, (hb02.trans ?_).trans (hb9.mono ?_)⟩
  · repeat (first | exact Below.refl _ _ | apply below_drewN | refine Below.alloc ?_ (by first | omega | (simp; done) | (simp; omega)) _)
  · first | omega | (simp; done) | (simp; omega)

set_option maxRecDepth 100000 in
theorem arLaw (p : Option Addr) (cap : Nat) (bs : List UInt8) (s : ByteArray) (n t : Int) (w : World) (a : Addr) (hr : RowAt w p bs.length bs) (hc : p = none → cap = 0) (hsz : bs.length ≤ 140737488351232) (hs2 : s.size ≤ 140737488351232)
    (hg : w.cell? ⟨0, 0, none⟩ = some (.iface 55 (.pointer (some a)))) :
    Calls Tryd.prog 3 #[.slice p bs.length cap, .string s, .int .i64 n, .int .i64 t] w fun e w' => e = .returned (.bool true) ∧ Below w.heap.size w w' := by
  by_cases hs : bs.length + s.size ≤ 1048576
  · exact arMain p cap bs s n t w a hr hc hs hg
  · have HG := Lib.hid (decide_eq_false hs)
    clear hr hc hg
    go_enter Tryd.func3, Tryd.ntmps3
    go_wp2_with (fail)
    refine (guardAR _ _ _ _ _ _ _ hsz hs2).mono ?_
    rintro e w' ⟨rfl, rfl⟩
    rw [HG.out]
    go_wp2
    go_ret
    exact ⟨rfl, Below.refl _ _⟩
end Go.Proofs.YtnjinknpckkioaaDoor.Fm
namespace Go.Proofs.YtnjinknpckkioaaDoor
open Go.Proofs.YtnjinknpckkioaaDoor.Fm
theorem fnBytesAddRefusesOtherTypes.walk (a0 : Option Addr) (len0 cap0 : Nat) (z0 : List Int) (a1 : ByteArray) (a2 a3 : Int) (w : World) (w0 : LawFrame.IsRow .u8 1 w a0 len0 cap0 z0) (w1 : a1.size ≤ 140737488351232) (_w2 : (Lit.int .i64 a2).wf = true) (_w3 : (Lit.int .i64 a3).wf = true)
    (hL : laidMetH Tryd.prog Rows.fnBytesAddRefusesOtherTypesRow.laid w) :
    Calls Tryd.prog 3 #[.slice a0 len0 cap0, .string a1, .int .i64 a2, .int .i64 a3] w fun e w' => e = .returned (.bool true) ∧ RowKit.Below w.heap.size w w' := by
  obtain ⟨bs, hr, hc, _, hsz⟩ := Go.Fmt.rowAt_of w0
  obtain rfl := hr.len
  obtain ⟨⟨a, hg⟩, _⟩ := sentinels hL
  exact arLaw a0 cap0 bs a1 a2 a3 w a hr hc hsz w1 hg
end Go.Proofs.YtnjinknpckkioaaDoor
