/- The laws' own zzRepr: a number's digits, the greatest power of the base first. -/
import Derived.Test.YtfpjkkjhdblmkaaDoorZz
namespace Go.Num
def powr (b : Nat) : Nat → Nat | 0 => 0 | r + 1 => b ^ r
def topr (b : Nat) : Nat → Nat → List Nat | 0, _ => [] | r + 1, u => top b r u
theorem powr_div {b : Nat} (hb : 2 ≤ b) : ∀ r, powr b (r + 1) / b = powr b r
  | 0 => by show b ^ 0 / b = 0; exact Nat.div_eq_of_lt (by simp; omega)
  | r + 1 => by show b ^ (r + 1) / b = b ^ r; rw [Nat.pow_succ]; exact Nat.mul_div_cancel _ (by omega)
theorem topr_succ (b : Nat) : ∀ r u, topr b (r + 1) u = (u / b ^ r) :: topr b r (u % b ^ r)
  | 0, u => by simp [topr, top]
  | r + 1, u => rfl
theorem pow_pos' {b : Nat} (hb : 2 ≤ b) (r : Nat) : 0 < b ^ r := Nat.pow_pos (by omega)
end Go.Num
namespace Go.Proofs.YtfpjkkjhdblmkaaDoor.Fm
open Go.ChangeShapes Go.WideShapes Go.ChangeAt Go.RowKit Go.Fmt Go.Num

/-- 'make([]byte, 0, n)', n a variable. -/
theorem make_cap {P : Program} {w : World} {ops : Array Oper} {rest : List Oper} {o : Oper} {a : Act} {Q : Exit → Act → World → Prop}
    (hg : o.guard = none) (l c : Operand) (t : TypeId) (hop : o.op = Op.makeSlice t l c) (base : Nat) (e : TypeId) (h1 : P.underlying t = some (.slice e))
    (hinfo : (P.info? e).map (fun i => (i.zero, i.size, i.bytes)) = some (some (.int .u8 0), 1, 1)) (C : Int) (n : Nat) (hl : a.eval l = .int .i64 0) (hc : a.eval c = .int .i64 C) (hC : C = (n : Int)) (b2 : n ≤ 281474976710656) (b4 : base ≤ w.heap.size)
    (hK : ∀ w', w'.ownsRow base e 1 (.slice (some ⟨w.heap.size, 0, none⟩) 0 n) 0 [] → Below w.heap.size w w' → wpList P ops Q rest (a.put o.dst (.slice (some ⟨w.heap.size, 0, none⟩) 0 n)) w') :
    wpList P ops Q (o :: rest) a w := by
  obtain ⟨i, hi, hz, hs, hb⟩ := info_parts hinfo
  refine wpList_make_own w hg l c t hop base e i (.int .u8 0) 1 h1 hi hz hs .i64 .i64 C n hl hc hC (by rw [hb]; omega) (by unfold maxLen; omega) b4 ?_
  intro w' ho hgr
  exact hK w' ho ((Below.refl _ w).grown hgr (Nat.le_refl _) (fun k hk => by cases hk))

theorem cells_byte (b : UInt8) : (#[Value.int .u8 b.toNat] : Array Value).toList = bcells [b] := rfl

set_option maxRecDepth 100000 in
set_option maxHeartbeats 2000000 in
theorem zzRepr (m b : Nat) (S : ByteArray) (up : Bool) (w : World) (hb : 2 ≤ b) (hb2 : b ≤ 16) (hm : m ≤ 18446744073709551615) (hS : S = ⟨(digs up).toArray⟩) :
    Calls Tryd.prog 14 #[.int .u64 m, .int .u64 b, .string S] w fun e w' => e = .returned (.string ⟨(repr b (digs up) m).toArray⟩) ∧ Below w.heap.size w w' := by
  have hS17 : S.size = 17 := by rw [hS]; exact digs_length up
  have HE : Hid (∀ j (h : j < S.size), S[j]'h = (digs up).getD j 0) := Lib.hid (fun j h => str_dig S up hS j h)
  have HZ := Lib.hid hS17
  obtain ⟨D, hD⟩ : ∃ D, D = digs up := ⟨_, rfl⟩
  rw [← hD] at HE ⊢
  obtain ⟨T, hT⟩ : ∃ T, T = repr b D m := ⟨_, rfl⟩
  have HT := Lib.hid hT
  rw [← hT]
  have hTl : T.length ≤ 64 := by rw [hT]; exact (repr_len hb (by omega)).2
  obtain ⟨H, hH⟩ : ∃ H, H = w.heap.size := ⟨_, rfl⟩
  have HH := Lib.hid hH
  have hI := Lib.hid info5
  clear hS hS17 hD hT
  go_enter Tryd.func14, Tryd.ntmps14
  go_wp2
  go_loop [7] (fun pv => ∃ j : Nat, pv = .int .u64 ((b ^ j : Nat) : Int) ∧ (b ^ j ≤ m ∨ j = 0)) (fun pv => m + 1 - (intOf pv).toNat)
  case atStart => exact ⟨0, rfl, .inr rfl⟩
  case round =>
    obtain ⟨j, rfl, hj⟩ := hrel
    have hp0 := pow_pos' hb j
    obtain ⟨p, hp⟩ : ∃ p, p = b ^ j := ⟨_, rfl⟩
    rw [← hp] at hp0 hj ⊢
    have HP := Lib.hid hp
    clear hp
    have hpz : ¬ p = 0 := by omega
    obtain ⟨y, hy⟩ : ∃ y, y = m / p := ⟨_, rfl⟩
    have hym : y ≤ m := by rw [hy]; exact Nat.div_le_self _ _
    have hwq : IntKind.u64.wrap ((m : Int) / (p : Int)) = (y : Int) := by
      rw [show (m : Int) / (p : Int) = (y : Int) by rw [hy]; exact (Int.natCast_ediv m p).symm]
      exact IntWalk.u64_in _ (by omega)
    have HY := Lib.hid hy
    by_cases hge : b ≤ y
    · have h1 : p * b ≤ m := by rw [Nat.mul_comm]; exact (Nat.le_div_iff_mul_le hp0).1 (by rw [← hy]; exact hge)
      have h2 : p < p * b := by
        have : p * 2 ≤ p * b := Nat.mul_le_mul_left _ hb
        omega
      obtain ⟨q, hq⟩ : ∃ q : Nat, q = p * b := ⟨_, rfl⟩
      have hqi : (p : Int) * (b : Int) = (q : Int) := by rw [hq]; simp
      rw [← hq] at h1 h2
      have HQ := Lib.hid hq
      clear hq hy
      go_wp2
      go_round
      case rel => exact ⟨j + 1, by rw [Nat.pow_succ, ← HP.out, ← HQ.out], .inl (by rw [Nat.pow_succ, ← HP.out, ← HQ.out]; exact h1)⟩
      case measure =>
        simp [intOf]
        omega
    · have hlt : m / p < b := by omega
      clear hy
      have hTop : Hid (T = txt D (top b j m)) := Lib.hid (by
        rw [HT.out]; unfold Go.Num.repr
        rw [dig_top hb j m (by rw [← HP.out]; exact hj) (by rw [Nat.pow_succ, ← HP.out, Nat.mul_comm]; exact (Nat.div_lt_iff_lt_mul hp0).1 hlt)])
      have HLT : Hid (m < b ^ (j + 1)) := Lib.hid (by rw [Nat.pow_succ, ← HP.out, Nat.mul_comm]; exact (Nat.div_lt_iff_lt_mul hp0).1 hlt)
      go_wp2_with ((at_make; refine make_cap rfl _ _ 46 rfl w.heap.size 5 Tryd.underlying46 hI.out _ 64 rfl rfl rfl (by omega) (Nat.le_refl _) ?_; intro w1 hown1 hbel1))
      rw [← hH] at hown1 hbel1 ⊢
      have HR0 := Lib.hid hown1
      have HB1 := Lib.hid hbel1
      have HR0b : Hid (w1.ownsRow H 5 1 (.slice (some ⟨H, 0, none⟩) ([] : List UInt8).length 64) ([] : List UInt8).length (bcells [])) := HR0
      have HPB : Hid (powr b (j + 1) ≤ 18446744073709551615) := Lib.hid (by
        show b ^ j ≤ _
        rw [← HP.out]
        rcases hj with h | h
        · omega
        · rw [HP.out, h]; simp)
      clear hH hown1 hbel1 hwq hge hlt hym HY
      go_loopw [0, 7, 8] (fun uv pv ov wr => ∃ (r v : Nat) (p2 : Option Addr) (xs : List UInt8) (cap : Nat), uv = .int .u64 v ∧ pv = .int .u64 (powr b r : Nat) ∧ ov = .slice p2 xs.length cap ∧ v ≤ 18446744073709551615 ∧ powr b r ≤ 18446744073709551615 ∧ xs.length ≤ 64 ∧ Hid (wr.ownsRow H 5 1 (.slice p2 xs.length cap) xs.length (bcells xs) ∧ Below H w wr ∧ xs ++ txt D (topr b r v) = T ∧ v < b ^ r)) (fun _ pv _ _ => (intOf pv).toNat)
      case atStart => exact ⟨j + 1, m, _, [], 64, rfl, by rw [HP.out]; rfl, rfl, hm, HPB.out, Nat.zero_le _, Lib.hid ⟨HR0b.out, HB1.out, by rw [hTop.out]; rfl, HLT.out⟩⟩
      case round =>
        obtain ⟨r, v, p2, xs, cap, rfl, rfl, rfl, hv, hpb, hxl, HX⟩ := hrel
        have hbs : H ≤ wr.heap.size := by rw [HH.out]; exact HX.out.2.1.size
        cases r with
        | zero =>
          have hcv := conv_own (P := Tryd.prog) (src := 46) (dst := 9) xs rfl HX.out.1 Tryd.underlying46 Tryd.underlying5 Tryd.underlying9
          have hz : powr b 0 = 0 := rfl
          rw [hz]
          have HT2 : Hid (xs = T) := Lib.hid (by have := HX.out.2.2.1; simpa [topr, txt] using this)
          go_wp2
          go_ret
          exact ⟨by rw [← HT2.out]; rfl, by rw [← HH.out]; exact HX.out.2.1⟩
        | succ r =>
          have hz : powr b (r + 1) = b ^ r := rfl
          rw [hz]
          have hp0' := pow_pos' hb r
          have hdv := powr_div hb r
          rw [hz] at hdv hpb
          have htp := topr_succ b r v
          have hvb := HX.out.2.2.2
          rw [Nat.pow_succ] at hvb
          obtain ⟨P, hP⟩ : ∃ P, P = b ^ r := ⟨_, rfl⟩
          rw [← hP] at hp0' hdv htp hvb hpb ⊢
          obtain ⟨d, hd⟩ : ∃ d, d = v / P := ⟨_, rfl⟩
          have hdb : d < b := by rw [hd]; exact (Nat.div_lt_iff_lt_mul hp0').2 (by rw [Nat.mul_comm]; exact hvb)
          have hmod : d * P + v % P = v := by rw [hd, Nat.mul_comm]; exact Nat.div_add_mod v P
          obtain ⟨s, hs⟩ : ∃ s, s = v % P := ⟨_, rfl⟩
          have hsP : s < P := by rw [hs]; exact Nat.mod_lt _ hp0'
          have hw1 : IntKind.u64.wrap ((v : Int) / (P : Int)) = (d : Int) := by
            rw [show (v : Int) / (P : Int) = (d : Int) by rw [hd]; exact (Int.natCast_ediv v P).symm]
            exact IntWalk.u64_in _ (by omega)
          obtain ⟨x, hx⟩ : ∃ x, x = d * P := ⟨_, rfl⟩
          have hw2 : IntKind.u64.wrap ((d : Int) * (P : Int)) = (x : Int) := by
            rw [show (d : Int) * (P : Int) = (x : Int) by rw [hx]; simp]
            exact IntWalk.u64_in _ (by omega)
          have hw3 : IntKind.u64.wrap ((v : Int) - (x : Int)) = (s : Int) := by
            rw [show (v : Int) - (x : Int) = (s : Int) by omega]
            exact IntWalk.u64_in _ (by omega)
          have hw4 : IntKind.u64.wrap ((P : Int) / (b : Int)) = ((powr b r : Nat) : Int) := by
            rw [show (P : Int) / (b : Int) = ((powr b r : Nat) : Int) by rw [← hdv]; exact (Int.natCast_ediv P b).symm]
            exact IntWalk.u64_in _ (by have : P / b ≤ P := Nat.div_le_self _ _
                                       omega)
          have hpr : powr b r ≤ 18446744073709551615 := by rw [← hdv]; exact Nat.le_trans (Nat.div_le_self _ _) hpb
          have hpl : powr b r < P := by rw [← hdv]; exact Nat.div_lt_self hp0' hb
          obtain ⟨P', hP'⟩ : ∃ P', P' = powr b r := ⟨_, rfl⟩
          rw [← hP'] at hw4 hpr hpl
          have hil : d < S.size := by rw [HZ.out]; omega
          have hi1 : (d : Int) < (S.size : Int) := by omega
          have hPz : ¬ P = 0 := by omega
          have hbz : ¬ b = 0 := by omega
          have hxv : x ≤ v := by omega
          have HN : Hid ((xs ++ [S[d]'hil]) ++ txt D (topr b r s) = T ∧ s < b ^ r) := Lib.hid (by
            refine ⟨?_, by rw [← hP]; exact hsP⟩
            have h := HX.out.2.2.1
            rw [htp, ← hd, ← hs] at h
            rw [HE.out d hil, List.append_assoc]
            exact h)
          have hxl2 : (xs ++ [S[d]'hil]).length ≤ 64 := by
            have h := congrArg List.length HN.out.1
            rw [List.length_append] at h
            omega
          have HP' := Lib.hid hP'
          have HD := Lib.hid hd
          clear htp hd hs hx hdv hP' hP hvb hz
          go_wp2_with ((at_builtin; refine append_new (w0 := wr) rfl _ _ 46 rfl H 5 Tryd.underlying46 hI.out p2 xs cap rfl HX.out.1 _ [S[d]'hil] (cells_byte _) _ rfl (by simp; omega) hbs ?_; intro p' cap' w' hown' hcap1 hcap2 hgrow))
          go_round
          case rel =>
            have e1 : (xs ++ [S[d]'hil]).length = xs.length + 1 := by simp
            exact ⟨r, s, p', xs ++ [S[d]'hil], cap', rfl, by rw [HP'.out], by rw [e1], by omega, by rw [← HP'.out]; exact hpr, hxl2, Lib.hid ⟨by rw [e1] at hown' ⊢; exact hown', HX.out.2.1.trans ((Below.refl _ wr).grown hgrow hbs (fun k hk => (HX.out.1.lt k hk).1)), HN.out.1, HN.out.2⟩⟩
          case measure => simp [intOf]; omega
end Go.Proofs.YtfpjkkjhdblmkaaDoor.Fm
