/- A Bytes object: BinaryOp. Refused by the sentinel but for Add of a Bytes object; else a new object over the joined bytes. -/
import Derived.Test.YtnjinknpckkioaaDoorObj
import Derived.Test.YtnjinknpckkioaaDoorKeep
import Derived.LaidEql
import Derived.LaidMore
import Derived.Stop.LaidErr
import Derived.Stop.Joined
import Derived.StillTailTactics
import Derived.KernelRfl
namespace Go.Proofs.YtnjinknpckkioaaDoor.Fm
open Go.ChangeShapes Go.WideShapes Go.ChangeAt Go.RowKit Go.Fmt

theorem bopOther (p v : Value) (t : Int) (a : Addr) (w : World) (ht : t ≠ 11) (hg : w.cell? ⟨0, 0, none⟩ = some (.iface 55 (.pointer (some a)))) :
    Calls Tryd.prog 8 #[p, .int .i64 t, v] w fun e w' => e = .returned (.tuple #[.nilIface, .iface 55 (.pointer (some a))]) ∧ ∃ n, w.drewN n = w' := by
  have hq : (t == 11) = false := by simpa using ht
  go_enter Tryd.func8, Tryd.ntmps8
  go_wp2
  go_quiet (fail)
  go_wp2
  go_ret2
  exact ⟨rfl, _, rfl⟩

theorem bopNot (p v : Value) (T : TypeId) (a : Addr) (w : World) (hta : ∀ w, (Instr.typeAssert (.iface T v) 31 25 true).run Tryd.prog w = .ok (.tuple #[.pointer none, .bool false]) w) (hg : w.cell? ⟨0, 0, none⟩ = some (.iface 55 (.pointer (some a)))) :
    Calls Tryd.prog 8 #[p, .int .i64 11, .iface T v] w fun e w' => e = .returned (.tuple #[.nilIface, .iface 55 (.pointer (some a))]) ∧ ∃ n, w.drewN n = w' := by
  go_enter Tryd.func8, Tryd.ntmps8
  go_wp2
  go_quiet (fail)
  go_wp2
  go_ret2
  exact ⟨rfl, _, rfl⟩

theorem ta_bytes (a : Addr) (w : World) : (Instr.typeAssert (.iface 25 (.pointer (some a))) 31 25 true).run Tryd.prog w = .ok (.tuple #[.pointer (some a), .bool true]) w := by kernel_rfl

/-- What Add gives: a new object over the joined bytes; only the receiver's own array may have turned, and not what the receiver holds. -/
def Added (w : World) (base : Nat) (p : Option Addr) (cap : Nat) (xs ys : List UInt8) (e : Ending) (w' : World) : Prop :=
  ∃ C q c, e = .returned (.tuple #[.iface 25 (.pointer (some ⟨C, 0, none⟩)), .nilIface]) ∧ w.heap.size ≤ C ∧ w'.cell? ⟨C, 0, none⟩ = some (.slice q (xs ++ ys).length c) ∧
    w'.ownsRow base 5 1 (.slice q (xs ++ ys).length c) (xs ++ ys).length (bcells (xs ++ ys)) ∧ w.grownBy w' (Value.slice p xs.length cap).ownBlock ∧ w'.ownsRow base 5 1 (.slice p xs.length cap) xs.length (bcells xs)

set_option maxRecDepth 100000 in
set_option maxHeartbeats 1000000 in
theorem bopAdd (B C : Nat) (base : Nat) (p q : Option Addr) (cap c : Nat) (xs ys : List UInt8) (w : World) (hB : w.cell? ⟨B, 0, none⟩ = some (.slice p xs.length cap)) (hown : w.ownsRow base 5 1 (.slice p xs.length cap) xs.length (bcells xs))
    (hC : w.cell? ⟨C, 0, none⟩ = some (.slice q ys.length c)) (hr : RowAt w q ys.length ys) (hc : q = none → c = 0) (hl : xs.length + ys.length ≤ 1000000000) (hbase : base ≤ w.heap.size) (hg : w.cell? ⟨1, 0, none⟩ = some (.int .i64 2147483647)) :
    Calls Tryd.prog 8 #[.pointer (some ⟨B, 0, none⟩), .int .i64 11, .iface 25 (.pointer (some ⟨C, 0, none⟩))] w (Added w base p cap xs ys) := by
  have hta := ta_bytes
  have hI := Lib.hid info5
  have HO := Lib.hid hown
  have HR := Lib.hid hr
  have HC := Lib.hid hc
  clear hown hr hc
  go_enter Tryd.func8, Tryd.ntmps8
  go_wp2
  go_quiet (fail)
  go_wp2
  obtain ⟨w1, hw1⟩ : ∃ w1, w1 = w.drewN nq := ⟨_, rfl⟩
  have hB1 : w1.cell? ⟨B, 0, none⟩ = some (.slice p xs.length cap) := by rw [hw1]; exact hB
  have hC1 : w1.cell? ⟨C, 0, none⟩ = some (.slice q ys.length c) := by rw [hw1]; exact hC
  rw [← hw1]
  have HW := Lib.hid hw1
  clear hw1 hB hC hg
  go_still_tail 8, (by kernel_rfl)
  have hO1 : w1.drew.ownsRow base 5 1 (.slice p xs.length cap) xs.length (bcells xs) := by rw [HW.out]; exact HO.out
  have hR1 : RowAt w1.drew q ys.length ys := by rw [HW.out]; exact HR.out
  have hb1 : base ≤ w1.drew.heap.size := by rw [HW.out]; exact hbase
  have HO1 := Lib.hid hO1
  have HR1 := Lib.hid hR1
  clear hO1 hR1
  change wpList _ _ _ _ _ w1.drew
  go_wp2_with ((at_builtin; refine append_keep rfl _ _ 22 22 rfl base 5 Tryd.underlying22 Tryd.underlying22 hI.out p xs cap rfl HO1.out q c ys rfl HR1.out HC.out (by omega) hb1 ?_; intro p2 cap2 w2 hown2 hle2 hcap2 hgrow2 hkeep2))
  have hgrow3 : w.grownBy w2 (Value.slice p xs.length cap).ownBlock := by
    have hg3 := hgrow2
    rw [HW.out] at hg3
    exact ⟨hg3.os, hg3.tape, hg3.output, hg3.size, hg3.block⟩
  clear hgrow2
  have hsz := hgrow3.size
  go_ret2
  have e1 : (xs ++ ys).length = xs.length + ys.length := List.length_append
  refine ⟨w2.heap.size, p2, cap2, rfl, hsz, by rw [e1]; simp, by rw [e1]; exact (e1 ▸ hown2).alloc _, ?_, hkeep2.alloc _⟩
  exact ⟨hgrow3.os, hgrow3.tape, hgrow3.output, Nat.le_trans hsz (by simp), fun k hk hne => (Below.heap_alloc w2 _ k (Nat.lt_of_lt_of_le hk hsz)).trans (hgrow3.block k hk hne)⟩

theorem compES : (Tryd.prog.info? 55).map (·.comparable) = some true := by kernel_rfl
theorem hasES : (Tryd.prog.info? 122).isSome = true := by kernel_rfl
theorem eql_same (a : Addr) (w : World) : (binOp .eql 33 (.iface 55 (.pointer (some a))) (.iface 55 (.pointer (some a)))).run Tryd.prog w = .ok (.bool true) w := by
  obtain ⟨i, hi, hc⟩ := Option.map_eq_some_iff.1 compES
  obtain ⟨j, hj⟩ := Option.isSome_iff_exists.1 hasES
  simp only [binOp]
  simp [Op.equal, Op.maxDepth, run_equalIn_iface_ptr_same w 9998 a Tryd.underlying33 Tryd.underlying55 hi hc hj]
theorem star : "*" ++ "errors.errorString" = "*errors.errorString" := by decide
theorem rowES (u : TypeId) (h : Tryd.prog.typeName? 3 u = some "*errors.errorString") : u = 55 :=
  typeName_ptr_named (nm := "errors.errorString") (by rw [star]; kernel_rfl) (by kernel_rfl) (by decide) u (by rw [star]; exact h)
/-- What the two listed variables hold. -/
theorem sentinels {w : World} (hL : laidMetH Tryd.prog Rows.fnBytesAddConcatRow.laid w) : (∃ a, w.cell? ⟨0, 0, none⟩ = some (.iface 55 (.pointer (some a)))) ∧ w.cell? ⟨1, 0, none⟩ = some (.int .i64 2147483647) := by
  rw [MakeChecks.laidMetH_plain _ _ _ (by kernel_rfl)] at hL
  refine ⟨?_, LawFrame.laid_int hL (List.mem_cons_of_mem _ (List.mem_cons_of_mem _ (List.mem_cons_self ..))) (by kernel_rfl) (show _ = some 3 by kernel_rfl) (by kernel_rfl)⟩
  obtain ⟨a, s, hv, _, _, _⟩ := laid_sentinel (g := 0) (ti := 33) (tp := 55) (te := 122) (ts := 9) hL (by kernel_rfl) (by kernel_rfl) Tryd.underlying33 rowES Tryd.underlying55 Tryd.underlying122 rfl rfl Tryd.underlying9 (by kernel_rfl) (by kernel_rfl)
  exact ⟨a, by simpa using World.var?_cell (g := 0) (by kernel_rfl) hv 0⟩
end Go.Proofs.YtnjinknpckkioaaDoor.Fm
