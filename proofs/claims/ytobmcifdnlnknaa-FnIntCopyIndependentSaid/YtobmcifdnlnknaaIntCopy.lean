/- The law FnIntCopyIndependent returns true on every input: an Int's copy is equal to it and independent of it. No condition. -/
import Derived.Test.YtobmcifdnlnknaaRows
import Derived.WalkKit
import Derived.ProofKit
import Derived.OpenShut
import Derived.WalkLawsBesides
import Derived.WalkSpells
import Derived.Deep.QuietTactic
import Derived.BigQuiet
namespace Go.Proofs.Ytobmcifdnlnknaa.fnIntCopyIndependent
open Go.ChangeShapes Go.WideShapes Go.ChangeAt Go.RowKit
set_option linter.unusedVariables false      -- a walk need not use every 'w<i>' (that an integer argument fits its kind)

theorem own : ownKnob Try.prog.godebug = none := by kernel_rfl

/-! ### STEP 1: THE WALK: the Go text returns true. 'Grown w w'': the world has at most new blocks (Derived/RowKit3.lean). Part the cases AHEAD of 'go_enter' where a test parts the walk; take each callee by a contract of your own. -/
theorem xor1_ne (a : Int) : (a == bits .xor .i64 a 1) = false := by
  rw [beq_eq_false_iff_ne]
  intro h
  have e : bits .xor .i64 a 1 = IntKind.i64.wrap ((BitVec.ofInt 64 a ^^^ BitVec.ofInt 64 1).toNat : Int) := rfl
  rw [e] at h
  have h2 := congrArg (BitVec.ofInt 64) h
  have h3 : BitVec.ofInt 64 (IntKind.i64.wrap ((BitVec.ofInt 64 a ^^^ BitVec.ofInt 64 1).toNat : Int)) = BitVec.ofInt 64 a ^^^ BitVec.ofInt 64 1 := by
    rw [IntKind.wrap_i64]
    apply BitVec.eq_of_toNat_eq
    rw [BitVec.toNat_ofInt]
    have := (BitVec.ofInt 64 a ^^^ BitVec.ofInt 64 1).isLt
    generalize (BitVec.ofInt 64 a ^^^ BitVec.ofInt 64 1).toNat = n at *
    omega
  rw [h3] at h2
  generalize BitVec.ofInt 64 a = x at h2
  have h4 := congrArg (x ^^^ ·) h2
  simp only [← BitVec.xor_assoc, BitVec.xor_self, BitVec.zero_xor] at h4
  exact absurd h4 (by decide)
theorem ta_int (b : Addr) (w : World) : (Instr.typeAssert (.iface 35 (.pointer (some b))) 25 35 true).run Try.prog w = .ok (.tuple #[.pointer (some b), .bool true]) w := by kernel_rfl
theorem int_equals (a b : Addr) (x y : Int) (w : World) (ha : w.cell? a = some (.int .i64 x)) (hb : w.cell? b = some (.int .i64 y)) :
    Calls Try.prog 8 #[.pointer (some a), .iface 35 (.pointer (some b))] w fun e w' => e = .returned (.bool (x == y)) ∧ ∃ n, w.drewN n = w' := by
  have t1 := ta_int
  go_enter Try.func8, Try.ntmps8
  go_wp2
  go_quiet (fail)
  go_wp2
  go_ret
  exact ⟨rfl, _, rfl⟩
theorem m_falsy (a : Addr) (w : World) : (method 179 35 (.pointer (some a)) "IsFalsy").run Try.prog w = .ok (34, .pointer (some a)) w := by kernel_rfl
theorem m_equals (a : Addr) (w : World) : (method 179 35 (.pointer (some a)) "Equals").run Try.prog w = .ok (8, .pointer (some a)) w := by kernel_rfl
theorem m_copy (a : Addr) (w : World) : (method 179 35 (.pointer (some a)) "Copy").run Try.prog w = .ok (7, .pointer (some a)) w := by kernel_rfl
theorem m_name (a : Addr) (w : World) : (method 179 35 (.pointer (some a)) "TypeName").run Try.prog w = .ok (37, .pointer (some a)) w := by kernel_rfl
theorem grown_drewN {W w' : World} {n : Nat} (h : Grown W w') : Grown W (w'.drewN n) := h
set_option maxHeartbeats 1000000 in
theorem walk (a0 : Int) (w0 : (Lit.int .i64 a0).wf = true) (w : World) :
    Calls Try.prog 4 #[.int .i64 a0] w fun e w' => e = .returned (.bool true) ∧ Grown w w' := by
  have h1 := m_falsy
  have h2 := m_equals
  have h3 := m_copy
  have h4 := m_name
  have h5 := xor1_ne a0
  go_enter Try.func4, Try.ntmps4
  go_wp2_with (first | (go_at_call 8; refine (int_equals _ _ a0 a0 _ ?_ ?_).mono ?_; (focus (go_simp; done)); (focus (go_simp; done)); rintro e w' ⟨rfl, n, rfl⟩) | (go_at_call 8; refine (int_equals _ _ a0 (bits .xor .i64 a0 1) _ ?_ ?_).mono ?_; (focus (go_simp; done)); (focus (go_simp; done)); rintro e w' ⟨rfl, n, rfl⟩) | go_in)
  go_ret
  exact ⟨rfl, by repeat (first | exact Grown.refl _ | apply Grown.drew | apply grown_drewN | apply Grown.alloc | refine Grown.setCell ?_ (by simp) _)⟩

/-! ### THE ROW's STEP: WRITTEN OUT: LEAVE IT -/
set_option maxRecDepth 100000 in
theorem lifted (os : Os) (started : os.Started) (H : Type) (enc : TypeId × Value → H) :
    ReturnsInHanded {} Try.checked os 4 .any (Rows.fnIntCopyIndependentSpec.pre6 enc Try.prog Try.f4 Rows.fnIntCopyIndependentRow.domain false) (Rows.fnIntCopyIndependentSpec.post enc Try.prog Try.f4 false true false false) := by
  refine returnsInHanded_of_change (C := Try.checked) own started (by kernel_rfl) Try.func4
    (ChangeSpec.witness6 (enc := enc) (C := Try.checked) false ⟨#[], #[.int .i64 0], []⟩ 8 (by kernel_rfl) (by kernel_rfl) (by kernel_rfl) (by kernel_rfl)) ?_
  intro W base args ds gs before hval0 hW hcnd _
  have hval : ∀ (j : Nat) t v, Try.f4.params[j]? = some t → args[j]? = some v → Value.okWide Try.prog W .any base t v := hval0
  have hW' := hW
  obtain ⟨p, q, hA0, hV, rfl, hfz, hnd⟩ := hW
  have hA : DataW.TrodAll enc Try.prog W 0 (fun _ => true) true Try.f4.params.toList args.toList ds p := hA0
  rw [Try.params4] at hA hval
  obtain ⟨v0, vs0, d0, ds0, p0, q0, hargs, rfl, rfl, h0, r0⟩ := trodAll_cons hA
  obtain ⟨rfl, rfl, rfl⟩ := trodAll_nil r0
  obtain rfl : args = #[v0] := by cases args; simp_all
  obtain ⟨rfl, rfl⟩ := trodVars_none hV
  obtain ⟨a0, rfl, rfl, rfl, w0⟩ := open_int Try.underlying2 (hval 0 2 v0 rfl rfl) h0
  clear hA0 hval0
  simp only [List.append_nil] at hW'
  refine (walk a0 w0 W).mono fun e W' ⟨he, hg⟩ => ?_
  subst he
  exact ⟨_, rfl, post_of_same (pa := []) (pv := []) hW' (fun _ _ _ => (trodAll_cons_mk (shut_bool Try.underlying4 _) trodAll_mk0)) (fun sp _ => (trodAll_cons_mk (shut_int Try.underlying2 w0) trodAll_mk0)) (fun _ _ => rfl) rfl
    (hg.frame _) hg.2.1 (ok_one (by kernel_rfl) rfl (okWide_bool_mk Try.underlying4 _))⟩

theorem over : Rows.fnIntCopyIndependentRow.holds Try.pinned (OpenSpec.ofChange Rows.fnIntCopyIndependentSpec) :=
  OpenClaim.holds_of_wide 4 Try.f4 rfl rfl rfl rfl rfl rfl rfl ⟨rfl, rfl, rfl, rfl, rfl⟩ rfl rfl rfl rfl rfl (by kernel_rfl) Try.func4 (by kernel_rfl)
    (of_decide_eq_true (by kernel_rfl)) (by unfold Func.isWrapper; first | (rw [if_pos (by decide +kernel)]; kernel_rfl) | (rw [if_neg (by decide +kernel)]; exact ⟨rfl, rfl⟩))
    (fun os started H enc _ => lifted os started H enc)

/-- ████ THE STATEMENT ████ -/
theorem proved : Rows.FnIntCopyIndependentSaid :=
  over
#print axioms proved
end Go.Proofs.Ytobmcifdnlnknaa.fnIntCopyIndependent
