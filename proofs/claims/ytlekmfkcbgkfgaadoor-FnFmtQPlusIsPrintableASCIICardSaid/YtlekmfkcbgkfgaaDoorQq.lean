/- appendQuotedWith, ASCII alone: a quote, what is printable, a quote. -/
import Derived.Test.YtlekmfkcbgkfgaaDoorQe
import Derived.Shelf.Unicode.DecodeAny
import Derived.Lib.QuoteLoop
import Derived.Laws.CopyOwn
namespace Go.Proofs.YtlekmfkcbgkfgaaDoor.Fm
open Go.ChangeShapes Go.WideShapes Go.ChangeAt Go.RowKit Go.Fmt Go.Lib

theorem esc (W0 : World) (N F B n : Nat) (f : Flags) (v : Value) (r : Int) (w : World) (hQ : QS W0 w N F B f v n) (hn : n ≤ 90000000) (hr0 : 0 ≤ r) (hr1 : r ≤ 1114111) (hv : Lib.validRune r = true) :
    Calls Tryd.prog 21 #[v, .int .i32 r, .int .u8 34, .bool true, .bool false] w (EscOf W0 N F B f n) := by
  by_cases h1 : r = 34 ∨ r = 92
  · exact esc1 W0 N F B n f v r w hQ hn h1
  by_cases h2 : 32 ≤ r ∧ r ≤ 126
  · exact esc2 W0 N F B n f v r w hQ hn h2.1 h2.2 (fun e => h1 (.inl e)) (fun e => h1 (.inr e))
  by_cases h3 : r = 7 ∨ r = 8 ∨ r = 12 ∨ r = 10 ∨ r = 13 ∨ r = 9 ∨ r = 11
  · exact esc3 W0 N F B n f v r w hQ hn h3
  by_cases h4 : r < 128
  · exact esc4 W0 N F B n f v r w hQ hn hr0 (by omega) (by omega) (by omega) (by omega) (by omega) (by omega) (by omega) (by omega)
  by_cases h5 : r < 65536
  · exact esc6 W0 N F B n f v r w hQ hn (by omega) h5 hv
  · exact esc7 W0 N F B n f v r w hQ hn (by omega) hr1 hv
section
variable {P : Program} {w : World} {ops : Array Oper} {rest : List Oper} {o : Oper} {a : Act} {Q : Exit → Act → World → Prop} {N F B : Nat} {f : Flags} {v : Value} {bs : List UInt8}
theorem wp_q (hgd : o.guard = none) (s x : Operand) (t : TypeId) (ho : o.op = .call { callee := .builtin .append, args := #[s, x], argTypes := #[t, t] }) (i : TypeInfo) (ht : P.underlying t = some (.slice 5)) (hi : P.info? 5 = some i ∧ i.zero = some (.int .u8 0) ∧ i.size = 1 ∧ i.bytes = 1)
    (hsv : a.eval s = v) (hQ : QB w N F B f v bs) (hx : a.eval x = .slice (some ⟨w.heap.size, 0, none⟩) 1 1) (hn : bs.length ≤ 100000000)
    (h : ∀ v' w', QB w' N F B f v' (bs ++ [34]) → Below N w w' → wpList P ops Q rest (a.put o.dst v') w') : wpList P ops Q (o :: rest) a (w.alloc (.cells #[.int .u8 34] 5)) := by
  have hal : Below w.heap.size w (w.alloc (.cells #[.int .u8 34] 5)) := (Below.refl _ _).alloc (Nat.le_refl _) _
  obtain ⟨v', w', hr, h2, h3⟩ := run_qb (P := P) (w.alloc (.cells #[.int .u8 34] 5)) t o.type i ht hi.1 hi.2.1 hi.2.2.1 hi.2.2.2 (hQ.old hal) ⟨w.heap.size, 0, none⟩ 34 1 (cell_one_new w (.int .u8 34) 5 0 _ rfl) hn
  have hfin := h v' w' h2 ((hal.mono hQ.lt).trans h3)
  refine wpList_plain hgd fun K hK => ?_
  unfold Oper.wp execOp
  simp only [ho, resolve, invoke, builtin, Sem.run_bind, Sem.run_pure, Result.andThen_ok, List.map_toArray, List.map_cons, List.map_nil, hsv, hx, hr]
  exact hK _ _ hfin
end
theorem QB.own {w : World} {N F B : Nat} {f : Flags} (h : Fresh w N F B f) : QB w N F B f (.slice (some ⟨F, 15, none⟩) 0 68) [] :=
  ⟨F, 15, 68, rfl, Nat.zero_le _, by unfold maxLen; omega, h, h.own, fun j hj => by simp at hj⟩
theorem QB.new {w w' : World} {N F B n : Nat} {f : Flags} (h : Fresh w N F B f) (ho : w'.ownsRow w.heap.size 5 1 (.slice (some ⟨w.heap.size, 0, none⟩) 0 n) 0 []) (hb : Below w.heap.size w w') (hn : n ≤ maxLen) : QB w' N F B f (.slice (some ⟨w.heap.size, 0, none⟩) 0 n) [] := by
  have h1 := h.lf
  have h2 := h.ltf
  have h3 := h.ltb
  refine ⟨w.heap.size, 0, n, rfl, Nat.zero_le _, hn, h.grow hb, ⟨by omega, by omega, by omega, (ho.lt _ rfl).2, fun j hj => ?_⟩, fun j hj => by simp at hj⟩
  rw [Nat.zero_add]
  exact own_cell ho hj
/-- What the quoted text is. -/
def QuoOf (W0 : World) (N F B : Nat) (f : Flags) (e : Ending) (w' : World) : Prop :=
  ∃ v' bs, e = .returned v' ∧ QB w' N F B f v' bs ∧ 2 ≤ bs.length ∧ bs.length ≤ 20000000 ∧ Pr bs ∧ bs.head? = some 34 ∧ bs.getLast? = some 34 ∧ Below N W0 w'
theorem quo_end {W0 w' : World} {N F B : Nat} {f : Flags} {v' : Value} {bs : List UInt8} (hq : QB w' N F B f v' (bs ++ [34])) (h1 : bs.length ≤ 19000000) (h2 : Pr bs) (h3 : bs.head? = some 34) (hb : Below N W0 w') : QuoOf W0 N F B f (.returned v') w' := by
  have h0 : 1 ≤ bs.length := by
    cases bs with
    | nil => simp at h3
    | cons a r => simp
  refine ⟨v', _, rfl, hq, by simp; omega, by simp; omega, fun b hb => ?_, by rw [List.head?_append, h3]; rfl, by simp, hb⟩
  rcases List.mem_append.1 hb with hb | hb
  · exact h2 b hb
  · simp only [List.mem_singleton] at hb
    subst hb
    decide

theorem QS.ofQB {W0 w : World} {N F B n : Nat} {f : Flags} {v : Value} {bs : List UInt8} (hq : QB w N F B f v bs) (h1 : bs.length ≤ n) (h2 : Pr bs) (h3 : bs.head? = some 34) (hb : Below N W0 w) : QS W0 w N F B f v n := ⟨⟨bs, h1, h2, h3, hq⟩, hb⟩
theorem QS.old {W0 w w' : World} {N F B n : Nat} {f : Flags} {v : Value} (h : QS W0 w N F B f v n) (hb : Below w.heap.size w w') : QS W0 w' N F B f v n := by
  obtain ⟨⟨bs, q1, q2, q3, q4⟩, hb0⟩ := h
  exact ⟨⟨bs, q1, q2, q3, q4.old hb⟩, hb0.trans (hb.mono q4.lt)⟩
theorem rune_top (s : ByteArray) : (Utf8.decode s 0).1 ≤ 1114111 := by
  have h := Lib.rune_valid s
  simp [Lib.validRune] at h
  omega
set_option maxRecDepth 100000 in
set_option maxHeartbeats 8000000 in
theorem quoted (W0 : World) (N F B : Nat) (f : Flags) (s : ByteArray) (w : World) (hN : N = W0.heap.size) (hU : Lib.Utf8Tabs 2 3 W0) (hb0 : Below N W0 w) (hf : Fresh w N F B f) (hs : s.size ≤ 1048576) :
    Calls Tryd.prog 19 #[.slice (some ⟨F, 15, none⟩) 0 68, .string s, .int .u8 34, .bool true, .bool false] w (QuoOf W0 N F B f) := by
  obtain ⟨i8, hi8⟩ := info_parts info5
  have H8 := Lib.hid hi8
  have HU := Lib.hid hU
  have HF := Lib.hid hf
  have HB0 := Lib.hid hb0
  have HN := Lib.hid hN
  clear hi8 hU hf hb0 hN
  by_cases hbig : 68 < s.size
  · have hbig' : (68 : Int) < (s.size : Int) := by omega
    obtain ⟨c, hc⟩ : ∃ c : Nat, c = 1 + s.size + 1 := ⟨_, rfl⟩
    have hcI : (1 : Int) + (s.size : Int) + 1 = (c : Int) := by omega
    obtain ⟨w0, m0, o0, y0⟩ := run_make_own (P := Tryd.prog) w w.heap.size 24 5 i8 (.int .u8 0) 1 Tryd.underlying24 H8.out.1 H8.out.2.1 H8.out.2.2.1 .i64 .i64 c (by rw [H8.out.2.2.2]; omega) (by unfold maxLen; omega) (Nat.le_refl _)
    have y0' : Below w.heap.size w w0 := (Below.refl _ _).grown y0 (Nat.le_refl _) (by simp)
    have hQ0 : QB w0 N F B f (.slice (some ⟨w.heap.size, 0, none⟩) 0 c) [] := QB.new HF.out o0 y0' (by unfold maxLen; omega)
    have HQ0 := Lib.hid hQ0
    have HB00 : Hid (Below N w w0) := Lib.hid (y0'.mono (Nat.le_trans HF.out.lf (Nat.le_of_lt HF.out.ltf)))
    rw [← hcI] at m0
    have HC := Lib.hid hcI
    clear hQ0 o0 y0 y0' hc hcI
    go_enter Tryd.func19, Tryd.ntmps19
    go_wp2_with (first | (refine wpList_copy_nothing rfl _ _ _ _ rfl 5 Tryd.underlying24 (by rw [H8.out.1]; simp [H8.out.2.2.1]) _ _ _ _ _ _ rfl rfl (by simp) ?_) | (at_builtin; refine wp_q rfl _ _ 24 rfl i8 Tryd.underlying24 H8.out rfl HQ0.out rfl (by simp) ?_; intro v1 w1 hq1 hb1; have HQ1 := Lib.hid hq1; have HB1 := Lib.hid hb1; clear hq1 hb1))
    go_loopw [0, 1, 12, 13] (fun vb vs _ _ wr => ∃ rest : ByteArray, vs = .string rest ∧ rest.size ≤ s.size ∧ Hid (QS W0 wr N F B f vb (1 + 10 * (s.size - rest.size))))
      (fun _ vs _ _ _ => match vs with | .string r => r.size | _ => 0)
    case atStart => exact ⟨s, rfl, Nat.le_refl _, Lib.hid (QS.ofQB HQ1.out (by simp) (by unfold Pr; decide) rfl (HB0.out.trans (HB00.out.trans HB1.out)))⟩
    case round =>
      obtain ⟨rest, rfl, hle, hbr⟩ := hrel
      by_cases h0 : 0 < rest.size
      · have h0' : (0 : Int) < (rest.size : Int) := by omega
        obtain ⟨R, hR⟩ : ∃ R, R = (Utf8.decode rest 0).1 := ⟨_, rfl⟩
        obtain ⟨K, hK⟩ : ∃ K, K = (Utf8.decode rest 0).2 := ⟨_, rfl⟩
        have hK1 : 1 ≤ K := by rw [hK]; exact Lib.width_pos _ _
        have hK2 : K ≤ rest.size := by rw [hK]; exact Lib.width_le _ h0
        have hRv : Lib.validRune (R : Int) = true := by rw [hR]; exact Lib.rune_valid _
        have hRt : R ≤ 1114111 := by rw [hR]; exact rune_top _
        have hBel : Below W0.heap.size W0 wr := by have := hbr.out.2; rwa [HN.out] at this
        have cD : Hid (Calls Tryd.prog 13 #[.string rest] wr fun e w' => e = .returned (.tuple #[.int .i32 R, .int .i64 K]) ∧ Below wr.heap.size wr w') := Lib.hid (by
          have e : Lib.decodeGo rest = (R, K) := by
            have hne : ¬ rest.size = 0 := by omega
            rw [hR, hK]; simp [Lib.decodeGo, hne]
          have := Tryd.utf8_DecodeRuneInString rest wr (Utf8Tabs_below HU.out hBel)
          rwa [e] at this)
        have hn : 1 + 10 * (s.size - rest.size) ≤ 89000000 := by omega
        obtain ⟨n, hnn⟩ : ∃ n, n = 1 + 10 * (s.size - rest.size) := ⟨_, rfl⟩
        rw [← hnn] at hbr hn
        have HNN := Lib.hid hnn
        obtain ⟨z, hz⟩ : ∃ z : Int, z = (R : Int) := ⟨_, rfl⟩
        have hz0 : 0 ≤ z := by omega
        have hz1 : z ≤ 1114111 := by omega
        rw [← hz] at cD hRv
        have HRV := Lib.hid hRv
        have HZ0 := Lib.hid hz0
        have HZ1 := Lib.hid hz1
        clear hR hK hBel hRv hnn hRt hz0 hz1
        clear hz R
        go_wp2_with (fail)
        refine cD.out.mono ?_
        rintro e w2 ⟨rfl, hbl⟩
        have hq := hbr.out.old hbl
        have hsz : (rest.extract K rest.size).size = rest.size - K := Lib.size_rest rest K
        clear hbl
        by_cases hbad : K = 1 ∧ z = 65533
        · obtain ⟨rfl, rfl⟩ := hbad
          have hx255 := UInt8.toNat_lt (rest[0]'h0)
          have hx16 : 0 ≤ (((rest[0]'h0).toNat : Nat) : Int) / 16 ∧ (((rest[0]'h0).toNat : Nat) : Int) / 16 < 16 := by omega
          go_wp2_with ((at_builtin; first | (refine wp_b rfl _ _ 24 rfl i8 Tryd.underlying24 H8.out _ (by first | omega | exact (hexd _ _).1) (by first | omega | exact (hexd _ _).2) rfl (by assumption) rfl (by omega) ?_; intro _ _ hq) | (refine wp_s rfl _ _ 24 9 rfl i8 Tryd.underlying24 Tryd.underlying9 H8.out rfl (by assumption) _ rfl (by unfold Pr; decide) rfl (by omega) ?_; intro _ _ hq)))
          go_roundw
          case rel =>
            refine ⟨_, rfl, by omega, Lib.hid (hq.le ?_)⟩
            have := HNN.out
            omega
          case measure => simp only []; omega
        · have cE : Hid (Calls Tryd.prog 21 #[u0, .int .i32 z, .int .u8 34, .bool true, .bool false] w2 (EscOf W0 N F B f n)) := Lib.hid (esc W0 N F B n f _ z w2 hq (by omega) HZ0.out HZ1.out HRV.out)
          by_cases hK1e : K = 1
          · subst hK1e
            have hR' : ¬ z = 65533 := by omega
            clear hbad
            go_wp2_with (fail)
            refine cE.out.mono ?_
            rintro e w3 ⟨v3, rfl, hq3⟩
            go_wp2_with (fail)
            go_roundw
            case rel =>
              refine ⟨_, rfl, by omega, Lib.hid (hq3.le ?_)⟩
              have := HNN.out
              omega
            case measure => simp only []; omega
          · have hK2' : (K : Int) ≤ (rest.size : Int) := by omega
            have hK1' : ¬ (K : Int) = 1 := by omega
            clear hbad
            go_wp2_with (fail)
            refine cE.out.mono ?_
            rintro e w3 ⟨v3, rfl, hq3⟩
            go_wp2_with (fail)
            go_roundw
            case rel =>
              refine ⟨_, rfl, by omega, Lib.hid (hq3.le ?_)⟩
              have := HNN.out
              omega
            case measure => simp only []; omega
      · have h0' : ¬ (0 : Int) < (rest.size : Int) := by omega
        obtain ⟨⟨bs, q1, q2, q3, q4⟩, qb⟩ := hbr.out
        have HQ4 := Lib.hid q4
        have HQb := Lib.hid qb
        clear q4 qb
        go_wp2_with ((at_builtin; refine wp_q rfl _ _ 24 rfl i8 Tryd.underlying24 H8.out rfl HQ4.out rfl (by omega) ?_; intro v2 w2 hq2 hb2; have HQ2 := Lib.hid hq2; have HB2 := Lib.hid hb2; clear hq2 hb2))
        go_ret
        exact quo_end HQ2.out (by omega) q2 q3 (HQb.out.trans HB2.out)
  · have hbig' : ¬ (68 : Int) < (s.size : Int) := by omega
    have hQ0 := QB.own HF.out
    have HQ0 := Lib.hid hQ0
    clear hQ0
    go_enter Tryd.func19, Tryd.ntmps19
    go_wp2_with ((at_builtin; refine wp_q rfl _ _ 24 rfl i8 Tryd.underlying24 H8.out rfl HQ0.out rfl (by simp) ?_; intro v1 w1 hq1 hb1; have HQ1 := Lib.hid hq1; have HB1 := Lib.hid hb1; clear hq1 hb1))
    go_loopw [0, 1, 12, 13] (fun vb vs _ _ wr => ∃ rest : ByteArray, vs = .string rest ∧ rest.size ≤ s.size ∧ Hid (QS W0 wr N F B f vb (1 + 10 * (s.size - rest.size))))
      (fun _ vs _ _ _ => match vs with | .string r => r.size | _ => 0)
    case atStart => exact ⟨s, rfl, Nat.le_refl _, Lib.hid (QS.ofQB HQ1.out (by simp) (by unfold Pr; decide) rfl (HB0.out.trans HB1.out))⟩
    case round =>
      obtain ⟨rest, rfl, hle, hbr⟩ := hrel
      by_cases h0 : 0 < rest.size
      · have h0' : (0 : Int) < (rest.size : Int) := by omega
        obtain ⟨R, hR⟩ : ∃ R, R = (Utf8.decode rest 0).1 := ⟨_, rfl⟩
        obtain ⟨K, hK⟩ : ∃ K, K = (Utf8.decode rest 0).2 := ⟨_, rfl⟩
        have hK1 : 1 ≤ K := by rw [hK]; exact Lib.width_pos _ _
        have hK2 : K ≤ rest.size := by rw [hK]; exact Lib.width_le _ h0
        have hRv : Lib.validRune (R : Int) = true := by rw [hR]; exact Lib.rune_valid _
        have hRt : R ≤ 1114111 := by rw [hR]; exact rune_top _
        have hBel : Below W0.heap.size W0 wr := by have := hbr.out.2; rwa [HN.out] at this
        have cD : Hid (Calls Tryd.prog 13 #[.string rest] wr fun e w' => e = .returned (.tuple #[.int .i32 R, .int .i64 K]) ∧ Below wr.heap.size wr w') := Lib.hid (by
          have e : Lib.decodeGo rest = (R, K) := by
            have hne : ¬ rest.size = 0 := by omega
            rw [hR, hK]; simp [Lib.decodeGo, hne]
          have := Tryd.utf8_DecodeRuneInString rest wr (Utf8Tabs_below HU.out hBel)
          rwa [e] at this)
        have hn : 1 + 10 * (s.size - rest.size) ≤ 89000000 := by omega
        obtain ⟨n, hnn⟩ : ∃ n, n = 1 + 10 * (s.size - rest.size) := ⟨_, rfl⟩
        rw [← hnn] at hbr hn
        have HNN := Lib.hid hnn
        obtain ⟨z, hz⟩ : ∃ z : Int, z = (R : Int) := ⟨_, rfl⟩
        have hz0 : 0 ≤ z := by omega
        have hz1 : z ≤ 1114111 := by omega
        rw [← hz] at cD hRv
        have HRV := Lib.hid hRv
        have HZ0 := Lib.hid hz0
        have HZ1 := Lib.hid hz1
        clear hR hK hBel hRv hnn hRt hz0 hz1
        clear hz R
        go_wp2_with (fail)
        refine cD.out.mono ?_
        rintro e w2 ⟨rfl, hbl⟩
        have hq := hbr.out.old hbl
        have hsz : (rest.extract K rest.size).size = rest.size - K := Lib.size_rest rest K
        clear hbl
        by_cases hbad : K = 1 ∧ z = 65533
        · obtain ⟨rfl, rfl⟩ := hbad
          have hx255 := UInt8.toNat_lt (rest[0]'h0)
          have hx16 : 0 ≤ (((rest[0]'h0).toNat : Nat) : Int) / 16 ∧ (((rest[0]'h0).toNat : Nat) : Int) / 16 < 16 := by omega
          go_wp2_with ((at_builtin; first | (refine wp_b rfl _ _ 24 rfl i8 Tryd.underlying24 H8.out _ (by first | omega | exact (hexd _ _).1) (by first | omega | exact (hexd _ _).2) rfl (by assumption) rfl (by omega) ?_; intro _ _ hq) | (refine wp_s rfl _ _ 24 9 rfl i8 Tryd.underlying24 Tryd.underlying9 H8.out rfl (by assumption) _ rfl (by unfold Pr; decide) rfl (by omega) ?_; intro _ _ hq)))
          go_roundw
          case rel =>
            refine ⟨_, rfl, by omega, Lib.hid (hq.le ?_)⟩
            have := HNN.out
            omega
          case measure => simp only []; omega
        · have cE : Hid (Calls Tryd.prog 21 #[u0, .int .i32 z, .int .u8 34, .bool true, .bool false] w2 (EscOf W0 N F B f n)) := Lib.hid (esc W0 N F B n f _ z w2 hq (by omega) HZ0.out HZ1.out HRV.out)
          by_cases hK1e : K = 1
          · subst hK1e
            have hR' : ¬ z = 65533 := by omega
            clear hbad
            go_wp2_with (fail)
            refine cE.out.mono ?_
            rintro e w3 ⟨v3, rfl, hq3⟩
            go_wp2_with (fail)
            go_roundw
            case rel =>
              refine ⟨_, rfl, by omega, Lib.hid (hq3.le ?_)⟩
              have := HNN.out
              omega
            case measure => simp only []; omega
          · have hK2' : (K : Int) ≤ (rest.size : Int) := by omega
            have hK1' : ¬ (K : Int) = 1 := by omega
            clear hbad
            go_wp2_with (fail)
            refine cE.out.mono ?_
            rintro e w3 ⟨v3, rfl, hq3⟩
            go_wp2_with (fail)
            go_roundw
            case rel =>
              refine ⟨_, rfl, by omega, Lib.hid (hq3.le ?_)⟩
              have := HNN.out
              omega
            case measure => simp only []; omega
      · have h0' : ¬ (0 : Int) < (rest.size : Int) := by omega
        obtain ⟨⟨bs, q1, q2, q3, q4⟩, qb⟩ := hbr.out
        have HQ4 := Lib.hid q4
        have HQb := Lib.hid qb
        clear q4 qb
        go_wp2_with ((at_builtin; refine wp_q rfl _ _ 24 rfl i8 Tryd.underlying24 H8.out rfl HQ4.out rfl (by omega) ?_; intro v2 w2 hq2 hb2; have HQ2 := Lib.hid hq2; have HB2 := Lib.hid hb2; clear hq2 hb2))
        go_ret
        exact quo_end HQ2.out (by omega) q2 q3 (HQb.out.trans HB2.out)
end Go.Proofs.YtlekmfkcbgkfgaaDoor.Fm
