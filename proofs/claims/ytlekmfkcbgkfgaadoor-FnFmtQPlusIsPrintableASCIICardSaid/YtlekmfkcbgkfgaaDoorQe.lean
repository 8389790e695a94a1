/- appendEscapedRune, ASCII alone: what it appends is printable. -/
import Derived.Test.YtlekmfkcbgkfgaaDoorQb
import Derived.Test.YtlekmfkcbgkfgaaDoorShelf
import Derived.LoopTactic
import Derived.Deep.LoopGhost
import Derived.Outline
import Derived.IntWalk
import Derived.LoopN
import Derived.Laws.BitsAllLaws
import Derived.Lib.QuoteBits
namespace Go.Proofs.YtlekmfkcbgkfgaaDoor.Fm
open Go.ChangeShapes Go.WideShapes Go.ChangeAt Go.RowKit Go.Fmt Go.Lib

/-- The buffer, and that nothing older has turned since W0. -/
def QS (W0 w : World) (N F B : Nat) (f : Flags) (v : Value) (n : Nat) : Prop := QP w N F B f v n ∧ Below N W0 w
theorem byte_of {z : Int} (h0 : 32 ≤ z) (h1 : z ≤ 126) : ((UInt8.ofNat z.toNat).toNat : Int) = z := by
  rw [UInt8.toNat_ofNat']
  omega
section
variable {P : Program} {w : World} {ops : Array Oper} {rest : List Oper} {o : Oper} {a : Act} {Q : Exit → Act → World → Prop} {W0 : World} {N F B n : Nat} {f : Flags} {v : Value}
theorem wp_b (hgd : o.guard = none) (s x : Operand) (t : TypeId) (ho : o.op = .call { callee := .builtin .append, args := #[s, x], argTypes := #[t, t] }) (i : TypeInfo) (ht : P.underlying t = some (.slice 5)) (hi : P.info? 5 = some i ∧ i.zero = some (.int .u8 0) ∧ i.size = 1 ∧ i.bytes = 1)
    (z : Int) (h0 : 32 ≤ z) (h1 : z ≤ 126) (hsv : a.eval s = v) (hQ : QS W0 w N F B f v n) (hx : a.eval x = .slice (some ⟨w.heap.size, 0, none⟩) 1 1) (hn : n ≤ 100000000)
    (h : ∀ v' w', QS W0 w' N F B f v' (n + 1) → wpList P ops Q rest (a.put o.dst v') w') : wpList P ops Q (o :: rest) a (w.alloc (.cells #[.int .u8 z] 5)) := by
  obtain ⟨⟨bs, q1, q2, q3, q4⟩, hb⟩ := hQ
  have hal : Below w.heap.size w (w.alloc (.cells #[.int .u8 z] 5)) := (Below.refl _ _).alloc (Nat.le_refl _) _
  obtain ⟨v', w', hr, h2, h3⟩ := run_qb (P := P) (w.alloc (.cells #[.int .u8 z] 5)) t o.type i ht hi.1 hi.2.1 hi.2.2.1 hi.2.2.2 (q4.old hal) ⟨w.heap.size, 0, none⟩ (UInt8.ofNat z.toNat) 1 (by rw [byte_of h0 h1]; exact cell_one_new w (.int .u8 z) 5 0 _ rfl) (by omega)
  have hfin := h v' w' ⟨⟨bs ++ [UInt8.ofNat z.toNat], by simp; omega, fun b hb => by
    rcases List.mem_append.1 hb with hb | hb
    · exact q2 b hb
    · simp only [List.mem_singleton] at hb
      subst hb
      have := byte_of h0 h1
      omega, by rw [List.head?_append, q3]; rfl, h2⟩, hb.trans ((hal.mono q4.lt).trans h3)⟩
  refine wpList_plain hgd fun K hK => ?_
  unfold Oper.wp execOp
  simp only [ho, resolve, invoke, builtin, Sem.run_bind, Sem.run_pure, Result.andThen_ok, List.map_toArray, List.map_cons, List.map_nil, hsv, hx, hr]
  exact hK _ _ hfin
theorem wp_s (hgd : o.guard = none) (s x : Operand) (t u : TypeId) (ho : o.op = .call { callee := .builtin .append, args := #[s, x], argTypes := #[t, u] }) (i : TypeInfo) (ht : P.underlying t = some (.slice 5)) (hu : P.underlying u = some .string) (hi : P.info? 5 = some i ∧ i.zero = some (.int .u8 0) ∧ i.size = 1 ∧ i.bytes = 1)
    (hsv : a.eval s = v) (hQ : QS W0 w N F B f v n) (st : ByteArray) (hx : a.eval x = .string st) (hp : Pr st.data.toList) (hl : st.size = 2) (hn : n ≤ 100000000)
    (h : ∀ v' w', QS W0 w' N F B f v' (n + 2) → wpList P ops Q rest (a.put o.dst v') w') : wpList P ops Q (o :: rest) a w := by
  obtain ⟨⟨bs, q1, q2, q3, q4⟩, hb⟩ := hQ
  obtain ⟨v', w', hr, h2, h3⟩ := run_qs (P := P) w t u o.type i ht hu hi.1 hi.2.1 hi.2.2.1 hi.2.2.2 q4 st (by omega) (by omega) (by omega)
  have hfin := h v' w' ⟨⟨bs ++ st.data.toList, by rw [List.length_append, size_list]; omega, fun b hb => by
    rcases List.mem_append.1 hb with hb | hb
    · exact q2 b hb
    · exact hp b hb, by rw [List.head?_append, q3]; rfl, h2⟩, hb.trans h3⟩
  refine wpList_plain hgd fun K hK => ?_
  unfold Oper.wp execOp
  simp only [ho, resolve, invoke, builtin, Sem.run_bind, Sem.run_pure, Result.andThen_ok, List.map_toArray, List.map_cons, List.map_nil, hsv, hx, hr]
  exact hK _ _ hfin
end
set_option maxRecDepth 100000 in
set_option maxHeartbeats 1000000 in
theorem isPr (r : Int) (w : World) (h0 : 32 ≤ r) (h1 : r ≤ 126) : Calls Tryd.prog 22 #[.int .i32 r] w fun e w' => e = .returned (.bool true) ∧ w = w' := by
  go_enter Tryd.func22, Tryd.ntmps22
  go_wp2
  go_ret
  exact ⟨rfl, rfl⟩
set_option maxRecDepth 100000 in
set_option maxHeartbeats 1000000 in
theorem isNp (r : Int) (w : World) (h0 : 0 ≤ r) (h1 : r < 32 ∨ r = 127) : Calls Tryd.prog 22 #[.int .i32 r] w fun e w' => e = .returned (.bool false) ∧ w = w' := by
  rcases h1 with h1 | rfl
  · have h2 : ¬ (32 : Int) ≤ r := by omega
    go_enter Tryd.func22, Tryd.ntmps22
    go_wp2
    go_ret
    exact ⟨rfl, rfl⟩
  · go_enter Tryd.func22, Tryd.ntmps22
    go_wp2
    go_ret
    exact ⟨rfl, rfl⟩
def EscOf (W0 : World) (N F B : Nat) (f : Flags) (n : Nat) (e : Ending) (w' : World) : Prop := ∃ v', e = .returned v' ∧ QS W0 w' N F B f v' (n + 10)
theorem QS.le {W0 w : World} {N F B n m : Nat} {f : Flags} {v : Value} (h : QS W0 w N F B f v n) (hm : n ≤ m) : QS W0 w N F B f v m := ⟨h.1.le hm, h.2⟩

set_option maxRecDepth 100000 in
set_option maxHeartbeats 2000000 in
theorem esc1 (W0 : World) (N F B n : Nat) (f : Flags) (v : Value) (r : Int) (w : World) (hQ : QS W0 w N F B f v n) (hn : n ≤ 90000000) (hr : r = 34 ∨ r = 92) :
    Calls Tryd.prog 21 #[v, .int .i32 r, .int .u8 34, .bool true, .bool false] w (EscOf W0 N F B f n) := by
  obtain ⟨i8, hi8⟩ := info_parts info5
  have H8 := Lib.hid hi8
  clear hi8
  rcases hr with rfl | rfl
  all_goals
    go_enter Tryd.func21, Tryd.ntmps21
    go_wp2_with ((at_builtin; refine wp_b rfl _ _ 24 rfl i8 Tryd.underlying24 H8.out _ (by omega) (by omega) rfl (by assumption) rfl (by omega) ?_; intro _ _ hq))
    go_ret
    exact ⟨_, rfl, hq.le (by omega)⟩
set_option maxRecDepth 100000 in
set_option maxHeartbeats 2000000 in
theorem esc2 (W0 : World) (N F B n : Nat) (f : Flags) (v : Value) (r : Int) (w : World) (hQ : QS W0 w N F B f v n) (hn : n ≤ 90000000) (h0 : 32 ≤ r) (h1 : r ≤ 126) (h2 : r ≠ 34) (h3 : r ≠ 92) :
    Calls Tryd.prog 21 #[v, .int .i32 r, .int .u8 34, .bool true, .bool false] w (EscOf W0 N F B f n) := by
  obtain ⟨i8, hi8⟩ := info_parts info5
  have H8 := Lib.hid hi8
  have HP := Lib.hid (isPr r w h0 h1)
  have hw8 : IntKind.u8.wrap r = r := by simp [IntKind.wrap, IntKind.signed, IntKind.bits]; omega
  have d1 : (r == 34) = false := by simp; omega
  have d2 : (r == 92) = false := by simp; omega
  have d3 : r < 128 := by omega
  clear hi8 h2 h3
  go_enter Tryd.func21, Tryd.ntmps21
  go_wp2_with (fail)
  refine HP.out.mono ?_
  rintro e w' ⟨rfl, rfl⟩
  go_wp2_with ((at_builtin; refine wp_b rfl _ _ 24 rfl i8 Tryd.underlying24 H8.out _ (by omega) (by omega) rfl (by assumption) rfl (by omega) ?_; intro _ _ hq))
  go_ret
  exact ⟨_, rfl, hq.le (by omega)⟩
set_option maxRecDepth 100000 in
set_option maxHeartbeats 4000000 in
theorem esc3 (W0 : World) (N F B n : Nat) (f : Flags) (v : Value) (r : Int) (w : World) (hQ : QS W0 w N F B f v n) (hn : n ≤ 90000000) (hr : r = 7 ∨ r = 8 ∨ r = 12 ∨ r = 10 ∨ r = 13 ∨ r = 9 ∨ r = 11) :
    Calls Tryd.prog 21 #[v, .int .i32 r, .int .u8 34, .bool true, .bool false] w (EscOf W0 N F B f n) := by
  obtain ⟨i8, hi8⟩ := info_parts info5
  have H8 := Lib.hid hi8
  have HP := Lib.hid (isNp r w (by omega) (by omega))
  clear hi8
  rcases hr with rfl | rfl | rfl | rfl | rfl | rfl | rfl
  all_goals
    go_enter Tryd.func21, Tryd.ntmps21
    go_wp2_with (fail)
    refine HP.out.mono ?_
    rintro e w' ⟨rfl, rfl⟩
    go_wp2_with ((at_builtin; refine wp_s rfl _ _ 24 9 rfl i8 Tryd.underlying24 Tryd.underlying9 H8.out rfl (by assumption) _ rfl (by unfold Pr; decide) rfl (by omega) ?_; intro _ _ hq))
    go_ret
    exact ⟨_, rfl, hq.le (by omega)⟩
theorem and15_u8 (k : Nat) (h : k < 256) : bits .and .u8 (k : Int) 15 = ((k % 16 : Nat) : Int) := by
  have h := u8_and_nat k 15 h (by omega)
  rw [show ((15 : Nat) : Int) = 15 from rfl] at h
  rw [h, show k &&& 15 = k % 16 from Nat.and_two_pow_sub_one_eq_mod _ 4]
/-- The hex digits are printable. -/
theorem hexd (j : Nat) (h : j < (⟨#[48, 49, 50, 51, 52, 53, 54, 55, 56, 57, 97, 98, 99, 100, 101, 102]⟩ : ByteArray).size) : 32 ≤ ((⟨#[48, 49, 50, 51, 52, 53, 54, 55, 56, 57, 97, 98, 99, 100, 101, 102]⟩ : ByteArray)[j].toNat : Int) ∧ ((⟨#[48, 49, 50, 51, 52, 53, 54, 55, 56, 57, 97, 98, 99, 100, 101, 102]⟩ : ByteArray)[j].toNat : Int) ≤ 126 := by
  have hj : j < 16 := h
  have : ∀ j : Fin 16, 32 ≤ ((⟨#[48, 49, 50, 51, 52, 53, 54, 55, 56, 57, 97, 98, 99, 100, 101, 102]⟩ : ByteArray)[j.val]'j.isLt).toNat ∧ ((⟨#[48, 49, 50, 51, 52, 53, 54, 55, 56, 57, 97, 98, 99, 100, 101, 102]⟩ : ByteArray)[j.val]'j.isLt).toNat ≤ 126 := by decide
  obtain ⟨a, b⟩ := this ⟨j, hj⟩
  exact ⟨Int.ofNat_le.2 a, Int.ofNat_le.2 b⟩
set_option maxRecDepth 100000 in
set_option maxHeartbeats 4000000 in
theorem esc4 (W0 : World) (N F B n : Nat) (f : Flags) (v : Value) (r : Int) (w : World) (hQ : QS W0 w N F B f v n) (hn : n ≤ 90000000) (h0 : 0 ≤ r) (h1 : r < 32 ∨ r = 127) (h7 : r ≠ 7) (h8 : r ≠ 8) (h12 : r ≠ 12) (h10 : r ≠ 10) (h13 : r ≠ 13) (h9 : r ≠ 9) (h11 : r ≠ 11) :
    Calls Tryd.prog 21 #[v, .int .i32 r, .int .u8 34, .bool true, .bool false] w (EscOf W0 N F B f n) := by
  obtain ⟨i8, hi8⟩ := info_parts info5
  have H8 := Lib.hid hi8
  have HP := Lib.hid (isNp r w h0 h1)
  have hw8 : IntKind.u8.wrap r = r := by simp [IntKind.wrap, IntKind.signed, IntKind.bits]; omega
  have d1 : (r == 34) = false := by simp; omega
  have d2 : (r == 92) = false := by simp; omega
  have d3 : r < 128 := by omega
  have k7 : (r == 7) = false := by simp; omega
  have k8 : (r == 8) = false := by simp; omega
  have k9 : (r == 9) = false := by simp; omega
  have k10 : (r == 10) = false := by simp; omega
  have k11 : (r == 11) = false := by simp; omega
  have k12 : (r == 12) = false := by simp; omega
  have k13 : (r == 13) = false := by simp; omega
  clear hi8 h7 h8 h9 h10 h11 h12 h13
  obtain ⟨k, hk⟩ := Int.eq_ofNat_of_zero_le h0
  have hk31 : k < 2147483648 := by omega
  have hmo : bits .and .u8 r 15 = ((k % 16 : Nat) : Int) := by
    have e := and15_u8 k (by omega)
    rw [hk]; exact e
  obtain ⟨d, hd⟩ : ∃ d, d = k % 16 := ⟨_, rfl⟩
  rw [← hd] at hmo
  have hd0 : (0 : Int) ≤ (d : Int) := by omega
  have hd1 : (d : Int) < 16 := by omega
  have HK := Lib.hid hk
  clear hk hd
  rcases h1 with h1 | rfl
  all_goals
    go_enter Tryd.func21, Tryd.ntmps21
    go_wp2_with (fail)
    refine HP.out.mono ?_
    rintro e w' ⟨rfl, rfl⟩
    go_wp2_with ((at_builtin; first | (refine wp_b rfl _ _ 24 rfl i8 Tryd.underlying24 H8.out _ (by first | omega | exact (hexd _ _).1) (by first | omega | exact (hexd _ _).2) rfl (by assumption) rfl (by omega) ?_; intro _ _ hq) | (refine wp_s rfl _ _ 24 9 rfl i8 Tryd.underlying24 Tryd.underlying9 H8.out rfl (by assumption) _ rfl (by unfold Pr; decide) rfl (by omega) ?_; intro _ _ hq)))
    all_goals
      go_ret
      exact ⟨_, rfl, hq.le (by omega)⟩
set_option maxRecDepth 100000 in
set_option maxHeartbeats 8000000 in
theorem esc6 (W0 : World) (N F B n : Nat) (f : Flags) (v : Value) (r : Int) (w : World) (hQ : QS W0 w N F B f v n) (hn : n ≤ 90000000) (h0 : 128 ≤ r) (h1 : r < 65536) (hv : Lib.validRune r = true) :
    Calls Tryd.prog 21 #[v, .int .i32 r, .int .u8 34, .bool true, .bool false] w (EscOf W0 N F B f n) := by
  obtain ⟨i8, hi8⟩ := info_parts info5
  have H8 := Lib.hid hi8
  have HV : Hid (Calls Tryd.prog 25 #[.int .i32 r] w fun e w' => e = .returned (.bool true) ∧ w = w') := Lib.hid (by
    have h := Tryd.utf8_ValidRune r w
    rw [hv] at h
    exact h.mono (fun _ _ h => ⟨h.1, h.2.symm⟩))
  clear hi8 hv
  obtain ⟨k, hk⟩ := Int.eq_ofNat_of_zero_le (show 0 ≤ r by omega)
  have hk31 : k < 2147483648 := by omega
  have d34 : (r == 34) = false := by simp; omega
  have d92 : (r == 92) = false := by simp; omega
  have d127 : (r == 127) = false := by simp; omega
  have k7 : (r == 7) = false := by simp; omega
  have k8 : (r == 8) = false := by simp; omega
  have k9 : (r == 9) = false := by simp; omega
  have k10 : (r == 10) = false := by simp; omega
  have k11 : (r == 11) = false := by simp; omega
  have k12 : (r == 12) = false := by simp; omega
  have k13 : (r == 13) = false := by simp; omega
  have e32 : ¬ r < 32 := by omega
  have e128 : ¬ r < 128 := by omega
  obtain ⟨d0, hd0⟩ : ∃ d, d = k / 4096 % 16 := ⟨_, rfl⟩
  have hD0 : bits .and .i32 (r / 4096) 15 = (d0 : Int) := by
    have e := Lib.and15_shift r k hk hk31 4096
    rw [hd0]; simpa using e
  have hL0 : d0 < 16 := by omega
  have hL0' : (d0 : Int) < 16 := by omega
  have HD0 := Lib.hid hd0
  clear hd0
  obtain ⟨d1, hd1⟩ : ∃ d, d = k / 256 % 16 := ⟨_, rfl⟩
  have hD1 : bits .and .i32 (r / 256) 15 = (d1 : Int) := by
    have e := Lib.and15_shift r k hk hk31 256
    rw [hd1]; simpa using e
  have hL1 : d1 < 16 := by omega
  have hL1' : (d1 : Int) < 16 := by omega
  have HD1 := Lib.hid hd1
  clear hd1
  obtain ⟨d2, hd2⟩ : ∃ d, d = k / 16 % 16 := ⟨_, rfl⟩
  have hD2 : bits .and .i32 (r / 16) 15 = (d2 : Int) := by
    have e := Lib.and15_shift r k hk hk31 16
    rw [hd2]; simpa using e
  have hL2 : d2 < 16 := by omega
  have hL2' : (d2 : Int) < 16 := by omega
  have HD2 := Lib.hid hd2
  clear hd2
  obtain ⟨d3, hd3⟩ : ∃ d, d = k / 1 % 16 := ⟨_, rfl⟩
  have hD3 : bits .and .i32 (r) 15 = (d3 : Int) := by
    have e := Lib.and15_shift r k hk hk31 1
    rw [hd3]; simpa using e
  have hL3 : d3 < 16 := by omega
  have hL3' : (d3 : Int) < 16 := by omega
  have HD3 := Lib.hid hd3
  clear hd3
  have HK := Lib.hid hk
  clear hk hk31
  go_enter Tryd.func21, Tryd.ntmps21
  go_wp2_with (fail)
  refine HV.out.mono ?_
  rintro e w' ⟨rfl, rfl⟩
  go_wp2_with ((at_builtin; first | (refine wp_b rfl _ _ 24 rfl i8 Tryd.underlying24 H8.out _ (by first | omega | exact (hexd _ _).1) (by first | omega | exact (hexd _ _).2) rfl (by assumption) rfl (by omega) ?_; intro _ _ hq) | (refine wp_s rfl _ _ 24 9 rfl i8 Tryd.underlying24 Tryd.underlying9 H8.out rfl (by assumption) _ rfl (by unfold Pr; decide) rfl (by omega) ?_; intro _ _ hq)))
  refine wp_loop_rounds 5 ?_
  rw [rounds_succ]
  go_wp2_with ((at_builtin; first | (refine wp_b rfl _ _ 24 rfl i8 Tryd.underlying24 H8.out _ (by first | omega | exact (hexd _ _).1) (by first | omega | exact (hexd _ _).2) rfl (by assumption) rfl (by omega) ?_; intro _ _ hq) | (refine wp_s rfl _ _ 24 9 rfl i8 Tryd.underlying24 Tryd.underlying9 H8.out rfl (by assumption) _ rfl (by unfold Pr; decide) rfl (by omega) ?_; intro _ _ hq)))
  rw [rounds_succ]
  go_wp2_with ((at_builtin; first | (refine wp_b rfl _ _ 24 rfl i8 Tryd.underlying24 H8.out _ (by first | omega | exact (hexd _ _).1) (by first | omega | exact (hexd _ _).2) rfl (by assumption) rfl (by omega) ?_; intro _ _ hq) | (refine wp_s rfl _ _ 24 9 rfl i8 Tryd.underlying24 Tryd.underlying9 H8.out rfl (by assumption) _ rfl (by unfold Pr; decide) rfl (by omega) ?_; intro _ _ hq)))
  rw [rounds_succ]
  go_wp2_with ((at_builtin; first | (refine wp_b rfl _ _ 24 rfl i8 Tryd.underlying24 H8.out _ (by first | omega | exact (hexd _ _).1) (by first | omega | exact (hexd _ _).2) rfl (by assumption) rfl (by omega) ?_; intro _ _ hq) | (refine wp_s rfl _ _ 24 9 rfl i8 Tryd.underlying24 Tryd.underlying9 H8.out rfl (by assumption) _ rfl (by unfold Pr; decide) rfl (by omega) ?_; intro _ _ hq)))
  rw [rounds_succ]
  go_wp2_with ((at_builtin; first | (refine wp_b rfl _ _ 24 rfl i8 Tryd.underlying24 H8.out _ (by first | omega | exact (hexd _ _).1) (by first | omega | exact (hexd _ _).2) rfl (by assumption) rfl (by omega) ?_; intro _ _ hq) | (refine wp_s rfl _ _ 24 9 rfl i8 Tryd.underlying24 Tryd.underlying9 H8.out rfl (by assumption) _ rfl (by unfold Pr; decide) rfl (by omega) ?_; intro _ _ hq)))
  rw [rounds_succ]
  go_wp2_with ((at_builtin; first | (refine wp_b rfl _ _ 24 rfl i8 Tryd.underlying24 H8.out _ (by first | omega | exact (hexd _ _).1) (by first | omega | exact (hexd _ _).2) rfl (by assumption) rfl (by omega) ?_; intro _ _ hq) | (refine wp_s rfl _ _ 24 9 rfl i8 Tryd.underlying24 Tryd.underlying9 H8.out rfl (by assumption) _ rfl (by unfold Pr; decide) rfl (by omega) ?_; intro _ _ hq)))
  go_ret
  exact ⟨_, rfl, hq.le (by omega)⟩
set_option maxRecDepth 100000 in
set_option maxHeartbeats 8000000 in
theorem esc7 (W0 : World) (N F B n : Nat) (f : Flags) (v : Value) (r : Int) (w : World) (hQ : QS W0 w N F B f v n) (hn : n ≤ 90000000) (h0 : 65536 ≤ r) (h1 : r ≤ 1114111) (hv : Lib.validRune r = true) :
    Calls Tryd.prog 21 #[v, .int .i32 r, .int .u8 34, .bool true, .bool false] w (EscOf W0 N F B f n) := by
  obtain ⟨i8, hi8⟩ := info_parts info5
  have H8 := Lib.hid hi8
  have HV : Hid (Calls Tryd.prog 25 #[.int .i32 r] w fun e w' => e = .returned (.bool true) ∧ w = w') := Lib.hid (by
    have h := Tryd.utf8_ValidRune r w
    rw [hv] at h
    exact h.mono (fun _ _ h => ⟨h.1, h.2.symm⟩))
  clear hi8 hv
  obtain ⟨k, hk⟩ := Int.eq_ofNat_of_zero_le (show 0 ≤ r by omega)
  have hk31 : k < 2147483648 := by omega
  have d34 : (r == 34) = false := by simp; omega
  have d92 : (r == 92) = false := by simp; omega
  have d127 : (r == 127) = false := by simp; omega
  have k7 : (r == 7) = false := by simp; omega
  have k8 : (r == 8) = false := by simp; omega
  have k9 : (r == 9) = false := by simp; omega
  have k10 : (r == 10) = false := by simp; omega
  have k11 : (r == 11) = false := by simp; omega
  have k12 : (r == 12) = false := by simp; omega
  have k13 : (r == 13) = false := by simp; omega
  have e32 : ¬ r < 32 := by omega
  have e128 : ¬ r < 128 := by omega
  obtain ⟨d0, hd0⟩ : ∃ d, d = k / 268435456 % 16 := ⟨_, rfl⟩
  have hD0 : bits .and .i32 (r / 268435456) 15 = (d0 : Int) := by
    have e := Lib.and15_shift r k hk hk31 268435456
    rw [hd0]; simpa using e
  have hL0 : d0 < 16 := by omega
  have hL0' : (d0 : Int) < 16 := by omega
  have HD0 := Lib.hid hd0
  clear hd0
  obtain ⟨d1, hd1⟩ : ∃ d, d = k / 16777216 % 16 := ⟨_, rfl⟩
  have hD1 : bits .and .i32 (r / 16777216) 15 = (d1 : Int) := by
    have e := Lib.and15_shift r k hk hk31 16777216
    rw [hd1]; simpa using e
  have hL1 : d1 < 16 := by omega
  have hL1' : (d1 : Int) < 16 := by omega
  have HD1 := Lib.hid hd1
  clear hd1
  obtain ⟨d2, hd2⟩ : ∃ d, d = k / 1048576 % 16 := ⟨_, rfl⟩
  have hD2 : bits .and .i32 (r / 1048576) 15 = (d2 : Int) := by
    have e := Lib.and15_shift r k hk hk31 1048576
    rw [hd2]; simpa using e
  have hL2 : d2 < 16 := by omega
  have hL2' : (d2 : Int) < 16 := by omega
  have HD2 := Lib.hid hd2
  clear hd2
  obtain ⟨d3, hd3⟩ : ∃ d, d = k / 65536 % 16 := ⟨_, rfl⟩
  have hD3 : bits .and .i32 (r / 65536) 15 = (d3 : Int) := by
    have e := Lib.and15_shift r k hk hk31 65536
    rw [hd3]; simpa using e
  have hL3 : d3 < 16 := by omega
  have hL3' : (d3 : Int) < 16 := by omega
  have HD3 := Lib.hid hd3
  clear hd3
  obtain ⟨d4, hd4⟩ : ∃ d, d = k / 4096 % 16 := ⟨_, rfl⟩
  have hD4 : bits .and .i32 (r / 4096) 15 = (d4 : Int) := by
    have e := Lib.and15_shift r k hk hk31 4096
    rw [hd4]; simpa using e
  have hL4 : d4 < 16 := by omega
  have hL4' : (d4 : Int) < 16 := by omega
  have HD4 := Lib.hid hd4
  clear hd4
  obtain ⟨d5, hd5⟩ : ∃ d, d = k / 256 % 16 := ⟨_, rfl⟩
  have hD5 : bits .and .i32 (r / 256) 15 = (d5 : Int) := by
    have e := Lib.and15_shift r k hk hk31 256
    rw [hd5]; simpa using e
  have hL5 : d5 < 16 := by omega
  have hL5' : (d5 : Int) < 16 := by omega
  have HD5 := Lib.hid hd5
  clear hd5
  obtain ⟨d6, hd6⟩ : ∃ d, d = k / 16 % 16 := ⟨_, rfl⟩
  have hD6 : bits .and .i32 (r / 16) 15 = (d6 : Int) := by
    have e := Lib.and15_shift r k hk hk31 16
    rw [hd6]; simpa using e
  have hL6 : d6 < 16 := by omega
  have hL6' : (d6 : Int) < 16 := by omega
  have HD6 := Lib.hid hd6
  clear hd6
  obtain ⟨d7, hd7⟩ : ∃ d, d = k / 1 % 16 := ⟨_, rfl⟩
  have hD7 : bits .and .i32 (r) 15 = (d7 : Int) := by
    have e := Lib.and15_shift r k hk hk31 1
    rw [hd7]; simpa using e
  have hL7 : d7 < 16 := by omega
  have hL7' : (d7 : Int) < 16 := by omega
  have HD7 := Lib.hid hd7
  clear hd7
  have HK := Lib.hid hk
  clear hk hk31
  go_enter Tryd.func21, Tryd.ntmps21
  go_wp2_with (fail)
  refine HV.out.mono ?_
  rintro e w' ⟨rfl, rfl⟩
  go_wp2_with ((at_builtin; first | (refine wp_b rfl _ _ 24 rfl i8 Tryd.underlying24 H8.out _ (by first | omega | exact (hexd _ _).1) (by first | omega | exact (hexd _ _).2) rfl (by assumption) rfl (by omega) ?_; intro _ _ hq) | (refine wp_s rfl _ _ 24 9 rfl i8 Tryd.underlying24 Tryd.underlying9 H8.out rfl (by assumption) _ rfl (by unfold Pr; decide) rfl (by omega) ?_; intro _ _ hq)))
  refine wp_loop_rounds 9 ?_
  rw [rounds_succ]
  go_wp2_with ((at_builtin; first | (refine wp_b rfl _ _ 24 rfl i8 Tryd.underlying24 H8.out _ (by first | omega | exact (hexd _ _).1) (by first | omega | exact (hexd _ _).2) rfl (by assumption) rfl (by omega) ?_; intro _ _ hq) | (refine wp_s rfl _ _ 24 9 rfl i8 Tryd.underlying24 Tryd.underlying9 H8.out rfl (by assumption) _ rfl (by unfold Pr; decide) rfl (by omega) ?_; intro _ _ hq)))
  rw [rounds_succ]
  go_wp2_with ((at_builtin; first | (refine wp_b rfl _ _ 24 rfl i8 Tryd.underlying24 H8.out _ (by first | omega | exact (hexd _ _).1) (by first | omega | exact (hexd _ _).2) rfl (by assumption) rfl (by omega) ?_; intro _ _ hq) | (refine wp_s rfl _ _ 24 9 rfl i8 Tryd.underlying24 Tryd.underlying9 H8.out rfl (by assumption) _ rfl (by unfold Pr; decide) rfl (by omega) ?_; intro _ _ hq)))
  rw [rounds_succ]
  go_wp2_with ((at_builtin; first | (refine wp_b rfl _ _ 24 rfl i8 Tryd.underlying24 H8.out _ (by first | omega | exact (hexd _ _).1) (by first | omega | exact (hexd _ _).2) rfl (by assumption) rfl (by omega) ?_; intro _ _ hq) | (refine wp_s rfl _ _ 24 9 rfl i8 Tryd.underlying24 Tryd.underlying9 H8.out rfl (by assumption) _ rfl (by unfold Pr; decide) rfl (by omega) ?_; intro _ _ hq)))
  rw [rounds_succ]
  go_wp2_with ((at_builtin; first | (refine wp_b rfl _ _ 24 rfl i8 Tryd.underlying24 H8.out _ (by first | omega | exact (hexd _ _).1) (by first | omega | exact (hexd _ _).2) rfl (by assumption) rfl (by omega) ?_; intro _ _ hq) | (refine wp_s rfl _ _ 24 9 rfl i8 Tryd.underlying24 Tryd.underlying9 H8.out rfl (by assumption) _ rfl (by unfold Pr; decide) rfl (by omega) ?_; intro _ _ hq)))
  rw [rounds_succ]
  go_wp2_with ((at_builtin; first | (refine wp_b rfl _ _ 24 rfl i8 Tryd.underlying24 H8.out _ (by first | omega | exact (hexd _ _).1) (by first | omega | exact (hexd _ _).2) rfl (by assumption) rfl (by omega) ?_; intro _ _ hq) | (refine wp_s rfl _ _ 24 9 rfl i8 Tryd.underlying24 Tryd.underlying9 H8.out rfl (by assumption) _ rfl (by unfold Pr; decide) rfl (by omega) ?_; intro _ _ hq)))
  rw [rounds_succ]
  go_wp2_with ((at_builtin; first | (refine wp_b rfl _ _ 24 rfl i8 Tryd.underlying24 H8.out _ (by first | omega | exact (hexd _ _).1) (by first | omega | exact (hexd _ _).2) rfl (by assumption) rfl (by omega) ?_; intro _ _ hq) | (refine wp_s rfl _ _ 24 9 rfl i8 Tryd.underlying24 Tryd.underlying9 H8.out rfl (by assumption) _ rfl (by unfold Pr; decide) rfl (by omega) ?_; intro _ _ hq)))
  rw [rounds_succ]
  go_wp2_with ((at_builtin; first | (refine wp_b rfl _ _ 24 rfl i8 Tryd.underlying24 H8.out _ (by first | omega | exact (hexd _ _).1) (by first | omega | exact (hexd _ _).2) rfl (by assumption) rfl (by omega) ?_; intro _ _ hq) | (refine wp_s rfl _ _ 24 9 rfl i8 Tryd.underlying24 Tryd.underlying9 H8.out rfl (by assumption) _ rfl (by unfold Pr; decide) rfl (by omega) ?_; intro _ _ hq)))
  rw [rounds_succ]
  go_wp2_with ((at_builtin; first | (refine wp_b rfl _ _ 24 rfl i8 Tryd.underlying24 H8.out _ (by first | omega | exact (hexd _ _).1) (by first | omega | exact (hexd _ _).2) rfl (by assumption) rfl (by omega) ?_; intro _ _ hq) | (refine wp_s rfl _ _ 24 9 rfl i8 Tryd.underlying24 Tryd.underlying9 H8.out rfl (by assumption) _ rfl (by unfold Pr; decide) rfl (by omega) ?_; intro _ _ hq)))
  rw [rounds_succ]
  go_wp2_with ((at_builtin; first | (refine wp_b rfl _ _ 24 rfl i8 Tryd.underlying24 H8.out _ (by first | omega | exact (hexd _ _).1) (by first | omega | exact (hexd _ _).2) rfl (by assumption) rfl (by omega) ?_; intro _ _ hq) | (refine wp_s rfl _ _ 24 9 rfl i8 Tryd.underlying24 Tryd.underlying9 H8.out rfl (by assumption) _ rfl (by unfold Pr; decide) rfl (by omega) ?_; intro _ _ hq)))
  go_ret
  exact ⟨_, rfl, hq.le (by omega)⟩
end Go.Proofs.YtlekmfkcbgkfgaaDoor.Fm
