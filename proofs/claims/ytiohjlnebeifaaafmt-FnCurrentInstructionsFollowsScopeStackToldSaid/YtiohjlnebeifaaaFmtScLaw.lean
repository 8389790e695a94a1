/- The law FnCurrentInstructionsFollowsScopeStack: its walk. -/
import Derived.Test.YtiohjlnebeifaaaFmtScope3
import Derived.Test.YtiohjlnebeifaaaFmtScSt
import Derived.Test.YtiohjlnebeifaaaFmtEq
import Derived.Test.YtiohjlnebeifaaaFmtClone
import Derived.Test.YtiohjlnebeifaaaFmtRow2
import Derived.IntWalk
namespace Go.Proofs.YtiohjlnebeifaaaFmt.Sc
open Go.ChangeShapes Go.WideShapes Go.ChangeAt Go.RowKit Go.Nest Go.Fmt Go.Proofs.YtiohjlnebeifaaaFmt.Fm

theorem infoBB : (Tryf.prog.info? 22).map (fun i => (i.zero, i.size, i.bytes)) = some (some (.slice none 0 0), 1, 24) := by kernel_rfl

set_option maxHeartbeats 1000000 in
theorem guardCur (p : Option Addr) (l c : Nat) (b : Bool) (w : World) (hsz : l ≤ 140737488351232) (hb : decide (l ≤ 1048576) = b) :
    Calls Tryf.prog 16 #[.slice p l c] w fun e w' => e = .returned (.bool b) ∧ w = w' := by
  subst hb
  by_cases h : l ≤ 1048576
  all_goals
    go_enter Tryf.func16, Tryf.ntmps16
    go_wp2
    go_ret
    exact ⟨by simp [h], rfl⟩

theorem wpList_app {P : Program} {w : World} {ops : Array Oper} {rest : List Oper} {o : Oper} {a : Act} {Q : Exit → Act → World → Prop} (hgd : o.guard = none) (s x : Operand) (t : TypeId)
    (ho : o.op = .call { callee := .builtin .append, args := #[s, x], argTypes := #[t, t] }) (e : TypeId) (i : TypeInfo) (z : Value) (ht : P.underlying t = some (.slice e)) (hi : P.info? e = some i) (hz : i.zero = some z) (hs : i.size = 1) (hb : i.bytes = 1) (hzc : z.cells.size = 1)
    (v : Value) (n : Nat) (xs : List Value) (hsv : a.eval s = v) (hown : w.ownsRow 0 e 1 v n xs) (A : Option Addr) (c : Nat) (bs : List Value) (hx : a.eval x = .slice A bs.length c) (hA : SrcB w A c bs) (h1 : ∀ u ∈ bs, u.oneCell' = true) (hl : n + bs.length ≤ 1073741824)
    (h : ∀ p' cap' w', w'.ownsRow 0 e 1 (.slice p' (n + bs.length) cap') (n + bs.length) (xs ++ bs) → w.grownBy w' v.ownBlock → ((Value.slice p' (n + bs.length) cap').ownBlock = v.ownBlock ∨ (Value.slice p' (n + bs.length) cap').ownBlock = some w.heap.size) →
      wpList P ops Q rest (a.put o.dst (.slice p' (n + bs.length) cap')) w') : wpList P ops Q (o :: rest) a w := by
  obtain ⟨p', cap', w', hr, h2, h3, h4⟩ := run_app (P := P) w t o.type e i z ht hi hz hs hb hzc v n xs hown A c bs hA h1 hl
  have hfin := h p' cap' w' h2 h3 h4
  refine wpList_plain hgd fun K hK => ?_
  unfold Oper.wp execOp
  simp only [ho, resolve, invoke, builtin, Sem.run_bind, Sem.run_pure, Result.andThen_ok, List.map_toArray, List.map_cons, List.map_nil, hsv, hx, hr]
  exact hK _ _ hfin

theorem below_drewN {B n : Nat} {w w' : World} (h : Below B w w') : Below B w (w'.drewN n) := ⟨h.os, h.tape, h.output, h.size, h.block⟩

/-- What holds at a round's head. -/
def Rl (base : Nat) (w0 w : World) (C i m g2 cap2 : Nat) : Prop := ∃ F ts init s F2 initM sM bss b, Both base w C F ts init s F2 g2 cap2 initM sM bss b ∧ bss.length = m ∧ m ≤ i ∧ (∀ l ∈ b :: bss, l.length ≤ i) ∧ Below base w0 w ∧ base ≤ w.heap.size

theorem news_s (w : World) (v : Value) (n : Nat) (e : TypeId) (hn : w.heap.size = n) : ∀ j u, [v][j]? = some u → (w.alloc (.cells #[v] e)).cell? ((⟨n, 0, none⟩ : Addr).add j) = some u := by
  subst hn
  exact cell_one_new w v e
theorem Rl.keep {base : Nat} {w0 w w' : World} {C i m g2 cap2 : Nat} (h : Rl base w0 w C i m g2 cap2) (hb : Below w.heap.size w w') : Rl base w0 w' C i m g2 cap2 := by
  obtain ⟨F, ts, init, s, F2, initM, sM, bss, b, hB, hm, h1, h2, h3, h4⟩ := h
  exact ⟨F, ts, init, s, F2, initM, sM, bss, b, hB.keep hb, hm, h1, h2, h3.trans (hb.mono h4), Nat.le_trans h4 hb.size⟩
/-- What a round's end asks of memory. -/
structure Tops (w : World) (C m g2 : Nat) (b : List UInt8) (pS pM : Option Addr) (cS cM : Nat) : Prop where
  cur : ∀ W, Below w.heap.size w W → Calls Tryf.prog 17 #[.pointer (some ⟨C, 0, none⟩)] W fun e w' => e = .returned (.slice pS b.length cS) ∧ ∃ k, w' = W.drewN k
  eq : ∀ W, Below w.heap.size w W → Calls Tryf.prog 21 #[.slice pS b.length cS, .slice pM b.length cM] W fun e w' => e = .returned (.bool true) ∧ Below W.heap.size W w'
  top : w.cell? ⟨g2, m, none⟩ = some (.slice pM b.length cM)
  lt : g2 < w.heap.size
theorem row_bytes {w : World} {v : Value} {n : Nat} {xs : List Value} {b : List UInt8} (h : w.ownsRow 0 5 1 v n xs) (hx : xs = bcells b) (hn : n = xs.length) : ∃ p c, v = .slice p b.length c ∧ RowAt w p b.length b := by
  subst hx
  rw [bcells_length] at hn
  subst hn
  obtain ⟨p, c, rfl, _, _⟩ := row_form h
  exact ⟨p, c, rfl, RowAt.of_own h⟩
theorem Both.tops {base : Nat} {w : World} {C : Nat} {F : Nat → Prop} {ts : List Nat} {init : List It} {s : It} {F2 : Nat → Prop} {g2 cap2 : Nat} {initM : List It} {sM : It} {bss : List (List UInt8)} {b : List UInt8}
    (h : Both base w C F ts init s F2 g2 cap2 initM sM bss b) (hm : bss.length ≤ 1000000) (hb : b.length ≤ 1000000) : ∃ pS pM cS cM, Tops w C bss.length g2 b pS pM cS cM := by
  obtain ⟨g, cap, h7, hN⟩ := h.cs.sc
  obtain ⟨pS, cS, e1, r1⟩ := row_bytes hN.last h.e3 rfl
  obtain ⟨pM, cM, e2, r2⟩ := row_bytes h.ns.last h.e4 rfl
  refine ⟨pS, pM, cS, cM, fun W hW => ?_, fun W hW => ?_, ?_, row_lt h.ns.row rfl⟩
  · have := zCurI F C ts init s W (h.keep hW).cs (by rw [h.len.1]; exact hm)
    rwa [e1] at this
  · refine (zzEqual pS pM b.length cS b.length cM b b W (r1.old hW) (r2.old hW) (by omega)).mono ?_
    rintro e w' ⟨rfl, h2⟩
    exact ⟨by simp, h2⟩
  · have := (nestM_top h.ns).1
    rwa [e2, h.len.2] at this

/-- The law's own stack, new: one empty text. -/
theorem newM (w : World) (n : Nat) (hn : n ≤ 1048576) : Nest ((w.alloc (.cells ((madeCells #[.slice none 0 0] (n + 1)).setIfInBounds 0 (.slice (some ⟨w.heap.size + 1, 0, none⟩) 0 0)) 22)).alloc (.cells #[] 5)) (fun k => k = w.heap.size ∨ k = w.heap.size + 1) 22 1 5 (.slice (some ⟨w.heap.size, 0, none⟩) 1 (n + 1)) [⟨.slice (some ⟨w.heap.size + 1, 0, none⟩) 0 0, [], []⟩] := by
  have hm : (madeCells #[Value.slice none 0 0] (n + 1)).size = n + 1 := by simpa using size_madeCells #[Value.slice none 0 0] (n + 1)
  generalize madeCells #[Value.slice none 0 0] (n + 1) = mc at *
  have h0 : (w.alloc (.cells (mc.setIfInBounds 0 (.slice (some ⟨w.heap.size + 1, 0, none⟩) 0 0)) 22)).heap[w.heap.size]? = some (.cells (mc.setIfInBounds 0 (.slice (some ⟨w.heap.size + 1, 0, none⟩) 0 0)) 22 (0, 0)) := heap_alloc_new w _
  obtain ⟨w1, hw1⟩ : ∃ w1, w1 = w.alloc (.cells (mc.setIfInBounds 0 (.slice (some ⟨w.heap.size + 1, 0, none⟩) 0 0)) 22) := ⟨_, rfl⟩
  have hs1 : w1.heap.size = w.heap.size + 1 := by rw [hw1]; simp
  rw [← hw1] at h0 ⊢
  have h1 : (w1.alloc (.cells #[] 5)).heap[w.heap.size]? = some (.cells (mc.setIfInBounds 0 (.slice (some ⟨w.heap.size + 1, 0, none⟩) 0 0)) 22 (0, 0)) := (Below.heap_alloc _ _ _ (by omega)).trans h0
  have h2 : (w1.alloc (.cells #[] 5)).heap[w.heap.size + 1]? = some (.cells #[] 5 (0, 0)) := by
    have := heap_alloc_new w1 (.cells #[] 5)
    rwa [hs1] at this
  refine ⟨⟨rfl, .inr ⟨w.heap.size, n + 1, _, rfl, Nat.zero_le _, h1, by simp, by unfold maxLen; omega, by simp [hm], ?_⟩⟩, by simp, ?_, ?_, ?_, by simp⟩
  · rw [Array.toList_setIfInBounds]
    cases hq : mc.toList with
    | nil => have := congrArg List.length hq; rw [Array.length_toList, hm] at this; simp at this
    | cons a r => rfl
  · intro s hs
    simp only [List.mem_singleton] at hs
    subst hs
    exact ⟨rfl, .inr ⟨w.heap.size + 1, 0, #[], rfl, Nat.zero_le _, h2, Nat.le_refl _, by decide, rfl, rfl⟩⟩
  · intro k hk
    exact .inl (by simpa [Value.ownBlock, eq_comm] using hk)
  · intro s hs k hk
    simp only [List.mem_singleton] at hs
    subst hs
    have e : w.heap.size + 1 = k := by simpa [Value.ownBlock] using hk
    exact ⟨.inr e.symm, by simp [Value.ownBlock]; omega⟩

set_option maxRecDepth 100000 in
set_option maxHeartbeats 4000000 in
theorem curMain (p : Option Addr) (cap : Nat) (os : List UInt8) (w : World) (hr : RowAt w p os.length os) (hc : p = none → cap = 0) (hs : os.length ≤ 4096) :
    Calls Tryf.prog 4 #[.slice p os.length cap] w fun e w' => e = .returned (.bool true) ∧ Below w.heap.size w w' := by
  obtain ⟨iB, hiB, hzB0, hzB1, hzB2⟩ := info_parts infoBB
  obtain ⟨i8, hi8, hz80, hz81, hz82⟩ := info_parts info8
  have hmk : ∀ (W : World) (n : Nat), n ≤ 1048576 → (Instr.makeSlice 38 (.int .i64 1) (.int .i64 ((n : Int) + 1))).run Tryf.prog W = .ok (.slice (some ⟨W.heap.size, 0, none⟩) 1 (n + 1)) (W.alloc (.cells (madeCells #[.slice none 0 0] (n + 1)) 22)) := fun W n hn => by
    have := run_makeSlice (P := Tryf.prog) W 38 22 iB (.slice none 0 0) Tryf.underlying38 hiB hzB0 .i64 .i64 1 ((n : Int) + 1) (by omega) (by omega) (by rw [hzB1]; omega) (by rw [hzB2]; omega) (by omega)
    rw [hzB1, show ((n : Int) + 1).toNat = n + 1 by omega] at this
    simpa [Value.cells] using this
  have HC := Lib.hid (zzClone p os.length cap os w hr (by omega) hc)
  have hsI : decide ((4096 : Int) < (os.length : Int)) = false := by simp; omega
  have HMK := Lib.hid hmk
  have HI8 := Lib.hid (And.intro hi8 (And.intro hz80 (And.intro hz81 hz82)))
  have HIB := Lib.hid (And.intro hiB (And.intro hzB0 (And.intro hzB1 hzB2)))
  clear hmk hr hc hiB hzB0 hzB1 hzB2 hi8 hz80 hz81 hz82
  go_enter Tryf.func4, Tryf.ntmps4
  go_wp2_with (fail)
  refine (guardCur p os.length cap true w (by omega) (by simp; omega)).mono ?_
  rintro e w' ⟨rfl, rfl⟩
  go_wp2_with (fail)
  refine HC.out.mono ?_
  intro e w1 hcp
  have hcq : ∃ q c, e = .returned (.slice q os.length c) ∧ RowAt w1 q os.length os ∧ Below w.heap.size w w1 := by
    rcases hcp with ⟨rfl, rfl, rfl, rfl⟩ | ⟨g, rfl, hown, hb⟩
    · exact ⟨none, 0, rfl, .inl ⟨rfl, rfl, rfl⟩, Below.refl _ _⟩
    · exact ⟨some ⟨g, 0, none⟩, _, rfl, RowAt.of_own hown, hb⟩
  obtain ⟨q, c, rfl, hrow1, hb1⟩ := hcq
  have HROW := Lib.hid hrow1
  have HB1 := Lib.hid hb1
  clear hcp hrow1 hb1 HC
  go_wp2_with (fail)
  refine (newS w1).mono ?_
  rintro e w2 ⟨F, C, t, ex, rfl, hcs, hb2, hC, hF, hT⟩
  have HZ := Lib.hid (zCurI F C [t] [] ⟨.slice none 0 0, ex, []⟩ w2 hcs (by simp))
  have HCS := Lib.hid hcs
  have HB2 := Lib.hid hb2
  have HF := Lib.hid hF
  have HT := Lib.hid hT
  have hs2 := hb2.size
  clear hcs hb2 hF hT
  go_wp2_with (fail)
  refine HZ.out.mono ?_
  rintro e w' ⟨rfl, k0, rfl⟩
  obtain ⟨w3, hw3⟩ : ∃ w3, w3 = w2.drewN k0 := ⟨_, rfl⟩
  have hb3 : Below w2.heap.size w2 w3 := by rw [hw3]; exact below_drewN (Below.refl _ _)
  have hz3 : w3.heap.size = w2.heap.size := by rw [hw3]; rfl
  have HCS3 : Hid (CompS w3 F C [t] [] ⟨.slice none 0 0, ex, []⟩) := Lib.hid (by rw [hw3]; exact HCS.out.drewN k0)
  have HB3 := Lib.hid hb3
  have HZ3 := Lib.hid hz3
  rw [← hw3]
  have hmk := HMK.out w3 os.length (by omega)
  have hmc : (madeCells #[Value.slice none 0 0] (os.length + 1)).size = os.length + 1 := by simpa using size_madeCells #[Value.slice none 0 0] (os.length + 1)
  have hm0 : ∃ v, (madeCells #[Value.slice none 0 0] (os.length + 1))[0]? = some v := ⟨_, Array.getElem?_eq_getElem (by rw [hmc]; omega)⟩
  obtain ⟨v0, hm0⟩ := hm0
  have HNM := Lib.hid (newM w3 os.length (by omega))
  clear hw3 hb3 hz3 hmc HCS HZ
  have HST : Hid (Below w.heap.size w ((w3.alloc (.cells ((madeCells #[.slice none 0 0] (os.length + 1)).setIfInBounds 0 (.slice (some ⟨w3.heap.size + 1, 0, none⟩) 0 0)) 22)).alloc (.cells #[] 5)) ∧ w1.heap.size ≤ w3.heap.size ∧
      Rl w1.heap.size w1 ((w3.alloc (.cells ((madeCells #[.slice none 0 0] (os.length + 1)).setIfInBounds 0 (.slice (some ⟨w3.heap.size + 1, 0, none⟩) 0 0)) 22)).alloc (.cells #[] 5)) C 0 0 w3.heap.size (os.length + 1)) := Lib.hid (by
    have hz := HZ3.out
    have hbA : Below w3.heap.size w3 ((w3.alloc (.cells ((madeCells #[.slice none 0 0] (os.length + 1)).setIfInBounds 0 (.slice (some ⟨w3.heap.size + 1, 0, none⟩) 0 0)) 22)).alloc (.cells #[] 5)) := ((Below.refl _ _).alloc (Nat.le_refl _) _).alloc (by simp) _
    have hb13 : Below w1.heap.size w1 w3 := HB2.out.trans (HB3.out.mono hs2)
    have hb14 := hb13.trans (hbA.mono (by omega))
    have hcs := HCS3.out
    refine ⟨HB1.out.trans (hb14.mono HB1.out.size), by omega, F, [t], [], _, _, [], _, [], [], ⟨hcs.turned (G := fun _ => False) ⟨hbA.os, hbA.tape, hbA.output, hbA.size, fun k hk _ => hbA.block k hk⟩ (fun _ _ h => h), HNM.out, rfl, rfl, rfl, rfl, fun k hk => ?_, fun k hk => ?_⟩, rfl, Nat.le_refl _, by simp, hb14, by simp; omega⟩
    · have h1 := hcs.fw
      have h2 := hcs.cw
      have h3 := (hcs.tF t (by simp)).2.2
      refine ⟨fun hf => by have := h1 k hf; omega, by omega, by simp; omega, by simp; omega⟩
    · rcases hk with hf | hf | hf | hf
      · exact HF.out k hf
      · omega
      · simp only [List.mem_singleton] at hf
        subst hf
        exact HT.out
      · omega)
  go_wp2
  obtain ⟨base, hbase⟩ : ∃ base, base = w1.heap.size := ⟨_, rfl⟩
  obtain ⟨w4, hw4⟩ : ∃ w4, w4 = (w3.alloc (.cells ((madeCells #[.slice none 0 0] (os.length + 1)).setIfInBounds 0 (.slice (some ⟨w3.heap.size + 1, 0, none⟩) 0 0)) 22)).alloc (.cells #[] 5) := ⟨_, rfl⟩
  rw [← hw4, ← hbase] at HST
  rw [← hw4]
  obtain ⟨g0, hg0⟩ : ∃ g0, g0 = w3.heap.size := ⟨_, rfl⟩
  rw [← hg0] at HST ⊢
  have HBASE := Lib.hid hbase
  have HW : Hid (base ≤ w4.heap.size ∧ (∀ W, Below base w1 W → Below w.heap.size w W)) := Lib.hid ⟨by obtain ⟨_, _, _, _, _, _, _, _, _, _, _, _, _, _, h⟩ := HST.out.2.2; exact h, fun W h => HB1.out.trans (h.mono (by rw [hbase]; exact HB1.out.size))⟩
  have HRL : Hid (Rl base w1 w4 C 0 0 g0 (os.length + 1)) := Lib.hid HST.out.2.2
  clear hmk hm0 HNM HST hw4 hg0 HCS3 HB2 HB3 HZ3 HF HT HMK hsI hC hs2 hbase
  go_loopw [4, 5] (fun sv iv wr => ∃ i m g2 cap2 : Nat, i ≤ os.length ∧ m ≤ i ∧ iv = .int .i64 i ∧ sv = .slice (some ⟨g2, 0, none⟩) (m + 1) cap2 ∧ Hid (Rl base w1 wr C i m g2 cap2)) (fun _ iv _ => os.length - (intOf iv).toNat)
  case atStart => exact ⟨0, 0, g0, _, Nat.zero_le _, Nat.le_refl _, rfl, rfl, HRL⟩
  case round =>
    obtain ⟨i, m, g2, cap2, hin, hmi, rfl, rfl, HR⟩ := hrel
    obtain ⟨wo, hwo⟩ : ∃ wo : World, wo = wr := ⟨_, rfl⟩
    subst hwo
    by_cases hlt : i < os.length
    · obtain ⟨F, ts, init, s, F2, initM, sM, bss, b, hB, hm, _, hll, hbel, hbs⟩ := HR.out
      have hl1 : init.length = m := by rw [hB.len.1, hm]
      have hl2 : initM.length = m := by rw [hB.len.2, hm]
      have hrow := HROW.out
      rcases hrow with ⟨_, _, h0⟩ | ⟨x, rfl, _, hx⟩
      · rw [h0] at hlt; simp at hlt
      have hx0 := hx i hlt
      have hx1 := (hbel.cell (by rw [HBASE.out]; exact World.block_lt_of_cell? w1 _ hx0)).trans hx0
      have hi0 : (0 : Int) ≤ (i : Int) := by omega
      have hi1 : (i : Int) < (os.length : Int) := by omega
      have hc0 : os[i].toNat < 256 := UInt8.toNat_lt _
      obtain ⟨c0, hcc⟩ : ∃ c0, c0 = os[i] := ⟨_, rfl⟩
      rw [← hcc] at hx1 hc0
      have HB := Lib.hid hB
      have HL1 := Lib.hid hl1
      have HL2 := Lib.hid hl2
      have HM := Lib.hid hm
      have HLL := Lib.hid hll
      have HBEL := Lib.hid hbel
      have hm4 : m ≤ 4096 := by omega
      have hbl : b.length ≤ 4096 := by have := hll b (by simp); omega
      have hsx : sM.xs.length = b.length := by rw [hB.e4, bcells_length]
      have hsx2 : s.xs.length = b.length := by rw [hB.e3, bcells_length]
      have HSX := Lib.hid hsx
      have HSX2 := Lib.hid hsx2
      have hg2w : g2 < wo.heap.size := row_lt hB.ns.row rfl
      have hFg2 : F2 g2 := hB.ns.foot g2 rfl
      have hm0 : (0 : Int) ≤ (m : Int) := by omega
      have hm1 : (m : Int) < (m : Int) + 1 := by omega
      clear hB hl1 hl2 hm hll hbel hcc hx hx0 HR hsx hsx2
      have hr4 : ((c0.toNat : Int) % 4 = 0 ∨ (c0.toNat : Int) % 4 = 1) ∨ (c0.toNat : Int) % 4 = 2 ∨ (c0.toNat : Int) % 4 = 3 := by omega
      rcases hr4 with hr4 | hr4 | hr4
      · have HADD : Hid (Calls Tryf.prog 18 #[.pointer (some ⟨C, 0, none⟩), .slice (some ⟨wo.heap.size, 0, none⟩) 1 1] (wo.alloc (.cells #[.int .u8 (c0.toNat : Int)] 5)) fun e w' => e = .returned (.int .i64 b.length) ∧ ∃ F' v', CompS w' F' C ts init ⟨v', s.ex, s.xs ++ bcells [c0]⟩ ∧ Turned (fun k => F k ∨ k = C) wo w' ∧ Ch F F' wo) := Lib.hid (by
          have hba : Below wo.heap.size wo (wo.alloc (.cells #[.int .u8 (c0.toNat : Int)] 5)) := (Below.refl _ _).alloc (Nat.le_refl _) _
          have h := zAddI F C ts init s (some ⟨wo.heap.size, 0, none⟩) 1 (bcells [c0]) (wo.alloc (.cells #[.int .u8 (c0.toNat : Int)] 5)) (HB.out.keep hba).cs (by rw [HL1.out]; omega) (by rw [HSX2.out]; simp [bcells]; omega) (.inr ⟨_, rfl, cell_one_new _ _ _⟩) (by simp [bcells, Value.oneCell'])
          rw [HSX2.out] at h
          refine h.mono ?_
          rintro e w' ⟨he, F', v', h1, h2, h3⟩
          refine ⟨he, F', v', h1, ⟨h2.os, h2.tape, h2.output, by have := h2.size; simp at this; omega, fun k hk hn => (h2.block k (by simp; omega) hn).trans (Below.heap_alloc wo _ k hk)⟩, fun k hk => ?_⟩
          rcases h3 k hk with h4 | h4
          · exact .inl h4
          · simp at h4; exact .inr (by omega))
        have hmod : True := trivial
        rcases hr4 with hr4 | hr4
        all_goals
          go_wp2_with (fail)
          refine HADD.out.mono ?_
          rintro e w2 ⟨rfl, F', v', hcs2, ht2, hch2⟩
          have hns2 := HB.out.ns_of ht2
          have htop := nestM_top hns2
          have hlast := hns2.last
          rw [HL2.out] at htop
          obtain ⟨pM, cM, hsv, _⟩ := row_bytes hlast HB.out.e4 rfl
          have hsg : sM.v.ownBlock ≠ some g2 := fun e => (hns2.feet sM (by simp) g2 e).2 rfl
          rw [HB.out.e4, bcells_length] at hlast
          rw [hsv] at htop hlast hsg
          have hs2 := ht2.size
          have HSV := Lib.hid hsv
          have HLAST := Lib.hid hlast
          have HCS2 := Lib.hid hcs2
          have HT2 := Lib.hid ht2
          have HCH2 := Lib.hid hch2
          obtain ⟨hc2, hf2⟩ := htop
          have HC2 := Lib.hid hc2
          have HF2 := Lib.hid hf2
          clear hns2 hlast hcs2 ht2 hch2 hsv hf2 HADD
          go_wp2_with ((at_builtin; refine wpList_app rfl _ _ 22 rfl 5 i8 (.int .u8 0) Tryf.underlying22 HI8.out.1 HI8.out.2.1 HI8.out.2.2.1 HI8.out.2.2.2 rfl (.slice pM b.length cM) b.length (bcells b) rfl (HLAST.out.alloc _) (some ⟨w2.heap.size, 0, none⟩) 1 (bcells [c0]) rfl (.inr ⟨_, rfl, cell_one_new _ _ _⟩) (by simp [bcells, Value.oneCell']) (by simp [bcells]; omega) ?_; intro p5 cap5 w5 hown5 hgrow5 hat5; have hk5 := (hgrow5.block g2 (by simp; omega) (Ne.symm hsg)).trans (Below.heap_alloc w2 _ g2 (by omega)); have c5 := (World.cell?_of_block (a := ⟨g2, m, none⟩) hk5).trans HC2.out; have f5 := (World.frozen?_of_block (a := ⟨g2, m, none⟩) hk5).trans HF2.out; have HO5 := Lib.hid hown5; have HG5 := Lib.hid hgrow5; have HA5 := Lib.hid hat5; clear hown5 hgrow5 hat5 hk5))
          have hsz1 : b.length + (bcells [c0]).length = (b ++ [c0]).length := by simp [bcells]
          have hadd := HB.out.add hbs HCS2.out HT2.out HCH2.out (cs := [c0]) (v5 := .slice p5 (b.length + (bcells [c0]).length) cap5) (w5 := w5) ((World.grownBy_alloc w2 _ _).trans (by rw [HSV.out]; exact HG5.out)) (by rw [bcells_append, ← hsz1]; exact HO5.out)
            (by
              rw [HSV.out]
              rcases HA5.out with e | e
              · exact .inl e
              · exact .inr ⟨_, e, by simp⟩)
          rw [HL2.out] at hadd
          obtain ⟨w6, hw6⟩ : ∃ w6, w6 = w5.setCell ⟨g2, m, none⟩ (.slice p5 (b.length + (bcells [c0]).length) cap5) := ⟨_, rfl⟩
          rw [← hw6] at hadd
          obtain ⟨F6, v6, F26, hB6, hb6⟩ := hadd
          obtain ⟨pS6, pM6, cS6, cM6, hT6⟩ := hB6.tops (by rw [HM.out]; omega) (by simp; omega)
          rw [HM.out] at hT6
          have HR6 : Hid (Rl base w1 w6 C (i + 1) m g2 cap2) := Lib.hid ⟨_, _, _, _, _, _, _, _, _, hB6, HM.out, by omega, fun l hl => by
            rcases List.mem_cons.1 hl with rfl | hl
            · have := HLL.out b (by simp); simp; omega
            · have := HLL.out l (by simp [hl]); omega, HBEL.out.trans hb6, Nat.le_trans hbs hb6.size⟩
          obtain ⟨b6, hb6e⟩ : ∃ b6, b6 = b ++ [c0] := ⟨_, rfl⟩
          rw [← hb6e] at hT6
          have HT6 := Lib.hid hT6
          have HW6 := Lib.hid hw6
          clear hT6 hB6 hb6 hb6e hsz1 c5 f5 hw6 hc2
          rw [← HW6.out]
          have hS := HT6.out.top
          have hlt6 := HT6.out.lt
          have hwm : IntKind.i64.wrap (m : Int) = (m : Int) := IntWalk.i64_in _ (by omega)
          have hwm2 : (0 : Int) ≤ (m : Int) := by omega
          go_region_held3 (fun w' => w'.cell? ⟨g2, m, none⟩ = some (.slice pM6 b6.length cM6)) (first | go_keep | exact (hb7.cell (p := ⟨g2, m, none⟩) (by simpa using hlt6)).trans hS)
            (first | (go_at_call 17; refine (HT6.out.cur _ (by exact below_drewN (Below.refl _ _))).mono ?_; rintro e w' ⟨rfl, k7, rfl⟩) | (go_at_call 21; refine (HT6.out.eq _ (by exact below_drewN (Below.refl _ _))).mono ?_; rintro e w7 ⟨rfl, hb7⟩))
          have hb67 : Below w6.heap.size w6 w7 := ⟨hb7.os, hb7.tape, hb7.output, hb7.size, hb7.block⟩
          have HB67 := Lib.hid hb67
          clear hb7 hb67 hS hwm hwm2
          go_wp2
          go_roundw
          case rel => exact ⟨i + 1, m, g2, cap2, hlt, by omega, by go_num, rfl, Lib.hid (HR6.out.keep HB67.out)⟩
          case measure => simp [intOf]; omega
      · have HENT := Lib.hid (zEntS F C ts init s wo HB.out.cs (by rw [HL1.out]; omega))
        go_wp2_with (fail)
        refine HENT.out.mono ?_
        rintro e w2 ⟨rfl, F', t, ex2, hcs2, ht2, hch2, htn⟩
        have hns2 := HB.out.ns_of ht2
        have hrowM : w2.ownsRow 0 22 1 (.slice (some ⟨g2, 0, none⟩) (m + 1) cap2) (m + 1) (flat (initM ++ [sM])) := by
          have := hns2.row
          rw [HL2.out] at this
          simpa [HL2.out] using this
        have HROWM := Lib.hid hrowM
        have hs2 := ht2.size
        have HCS2 := Lib.hid hcs2
        have HT2 := Lib.hid ht2
        have HCH2 := Lib.hid hch2
        have HTN := Lib.hid htn
        clear hns2 hrowM hcs2 ht2 hch2 HENT htn
        go_wp2_with ((at_builtin; refine wpList_append_lies _ rfl _ _ 38 rfl 0 22 iB (.slice none 0 0) 1 24 Tryf.underlying38 HIB.out.1 HIB.out.2.1 HIB.out.2.2.1 HIB.out.2.2.2 rfl (by decide) (.slice (some ⟨g2, 0, none⟩) (m + 1) cap2) (m + 1) (flat (initM ++ [sM])) rfl ((HROWM.out.alloc _).alloc _) ⟨w2.heap.size + 1, 0, none⟩ 1 1 [.slice (some ⟨w2.heap.size, 0, none⟩) 0 0] rfl rfl (news_s _ _ _ _ (by simp)) (by simp [Value.oneCell']) (by decide) (by unfold maxLen; omega) (by omega) (Nat.zero_le _) (w2.heap.size + 2) (by simp) ?_; intro g5 cap5 w5 hown5 hgrow5 hat5 hlt5; have HO5 := Lib.hid hown5; have HG5 := Lib.hid hgrow5; have HA5 := Lib.hid hat5; clear hown5 hgrow5 hat5))
        have hpush := HB.out.push (h5 := w2.heap.size) (g5 := g5) (cap5 := cap5) (w5 := w5) (w3 := (w2.alloc (.cells #[] 5)).alloc (.cells #[.slice (some ⟨w2.heap.size, 0, none⟩) 0 0] 22)) hbs HCS2.out HT2.out HCH2.out HTN.out (((Below.refl _ _).alloc (Nat.le_refl _) _).alloc (by simp) _) (Nat.le_refl _)
          (by
            have h1 : (w2.alloc (.cells #[] 5)).heap[w2.heap.size]? = some (.cells #[] 5 (0, 0)) := heap_alloc_new w2 _
            exact ⟨rfl, .inr ⟨w2.heap.size, 0, #[], rfl, Nat.zero_le _, (Below.heap_alloc _ _ _ (by simp)).trans h1, Nat.le_refl _, by decide, rfl, rfl⟩⟩)
          (by exact HG5.out) (by rw [HL2.out]; exact HO5.out)
          (by
            rcases HA5.out with e | e
            · exact .inl (by simpa [Value.ownBlock] using e)
            · exact .inr (by simp; omega))
        obtain ⟨w6, hw6⟩ : ∃ w6, w6 = w5 := ⟨_, rfl⟩
        rw [← hw6] at hpush
        obtain ⟨F26, hB6, hb6⟩ := hpush
        obtain ⟨pS6, pM6, cS6, cM6, hT6⟩ := hB6.tops (by simp [HM.out]; omega) (by simp)
        rw [List.length_append, HM.out] at hT6
        have HR6 : Hid (Rl base w1 w6 C (i + 1) (m + 1) g5 cap5) := Lib.hid ⟨_, _, _, _, _, _, _, _, _, hB6, by simp [HM.out], by omega, fun l hl => by
          simp only [List.mem_cons, List.mem_append, List.not_mem_nil, or_false] at hl
          rcases hl with rfl | hl | rfl
          · simp
          · have := HLL.out l (by simp [hl]); omega
          · have := HLL.out l (by simp); omega, HBEL.out.trans hb6, Nat.le_trans hbs hb6.size⟩
        have HT6 : Hid (Tops w6 C (m + 1) g5 [] pS6 pM6 cS6 cM6) := Lib.hid hT6
        obtain ⟨b6, hb6e⟩ : ∃ b6 : List UInt8, b6 = [] := ⟨_, rfl⟩
        rw [← hb6e] at HT6
        rw [← hw6]
        clear hT6 hB6 hb6 hb6e hw6
        have hS := HT6.out.top
        have hlt6 := HT6.out.lt
        have hwm : IntKind.i64.wrap ((m : Int) + 1) = ((m : Int) + 1) := IntWalk.i64_in _ (by omega)
        have hwm2 : (0 : Int) ≤ ((m : Int) + 1) := by omega
        go_region_held3 (fun w' => w'.cell? ⟨g5, (m + 1), none⟩ = some (.slice pM6 b6.length cM6)) (first | go_keep | exact (hb7.cell (p := ⟨g5, (m + 1), none⟩) (by simpa using hlt6)).trans hS)
          (first | (go_at_call 17; refine (HT6.out.cur _ (by exact below_drewN (Below.refl _ _))).mono ?_; rintro e w' ⟨rfl, k7, rfl⟩) | (go_at_call 21; refine (HT6.out.eq _ (by exact below_drewN (Below.refl _ _))).mono ?_; rintro e w7 ⟨rfl, hb7⟩))
        have hb67 : Below w6.heap.size w6 w7 := ⟨hb7.os, hb7.tape, hb7.output, hb7.size, hb7.block⟩
        have HB67 := Lib.hid hb67
        clear hb7 hb67 hS hwm hwm2
        go_wp2
        go_roundw
        case rel => exact ⟨i + 1, (m + 1), g5, cap5, hlt, by omega, by go_num, rfl, Lib.hid (HR6.out.keep HB67.out)⟩
        case measure => simp [intOf]; omega
      · by_cases hm0' : m = 0
        · subst hm0'
          obtain ⟨w6, hw6⟩ : ∃ w6, w6 = wo := ⟨_, rfl⟩
          have hB6 := HB.out
          rw [← hw6] at hB6
          obtain ⟨pS6, pM6, cS6, cM6, hT6⟩ := hB6.tops (by rw [HM.out]; omega) (by omega)
          rw [HM.out] at hT6
          have HR6 : Hid (Rl base w1 w6 C (i + 1) 0 g2 cap2) := Lib.hid ⟨_, _, _, _, _, _, _, _, _, hB6, HM.out, by omega, fun l hl => by have := HLL.out l hl; omega, by rw [hw6]; exact HBEL.out, by rw [hw6]; exact hbs⟩
          have HT6 := Lib.hid hT6
          obtain ⟨b6, hb6e⟩ : ∃ b6, b6 = b := ⟨_, rfl⟩
          rw [← hb6e] at HT6
          clear hT6 hB6 hb6e
          go_wp2_with (fail)
          rw [← hw6]
          clear hw6
          have hS := HT6.out.top
          have hlt6 := HT6.out.lt
          have hwm : IntKind.i64.wrap (0 : Int) = (0 : Int) := IntWalk.i64_in _ (by omega)
          have hwm2 : (0 : Int) ≤ (0 : Int) := by omega
          go_region_held3 (fun w' => w'.cell? ⟨g2, 0, none⟩ = some (.slice pM6 b6.length cM6)) (first | go_keep | exact (hb7.cell (p := ⟨g2, 0, none⟩) (by simpa using hlt6)).trans hS)
            (first | (go_at_call 17; refine (HT6.out.cur _ (by exact below_drewN (Below.refl _ _))).mono ?_; rintro e w' ⟨rfl, k7, rfl⟩) | (go_at_call 21; refine (HT6.out.eq _ (by exact below_drewN (Below.refl _ _))).mono ?_; rintro e w7 ⟨rfl, hb7⟩))
          have hb67 : Below w6.heap.size w6 w7 := ⟨hb7.os, hb7.tape, hb7.output, hb7.size, hb7.block⟩
          have HB67 := Lib.hid hb67
          clear hb7 hb67 hS hwm hwm2
          go_wp2
          go_roundw
          case rel => exact ⟨i + 1, 0, g2, cap2, hlt, by omega, by go_num, rfl, Lib.hid (HR6.out.keep HB67.out)⟩
          case measure => simp [intOf]; omega
        · obtain ⟨m1, rfl⟩ : ∃ m1, m = m1 + 1 := ⟨m - 1, by omega⟩
          obtain ⟨init', s1, rfl⟩ : ∃ i' s', init = i' ++ [s'] := by
            rcases List.eq_nil_or_concat init with h | ⟨a, x, h⟩
            · have := HL1.out; rw [h] at this; simp at this
            · exact ⟨a, x, by simpa using h⟩
          obtain ⟨initM', s1M, rfl⟩ : ∃ i' s', initM = i' ++ [s'] := by
            rcases List.eq_nil_or_concat initM with h | ⟨a, x, h⟩
            · have := HL2.out; rw [h] at this; simp at this
            · exact ⟨a, x, by simpa using h⟩
          obtain ⟨bss', b1, rfl⟩ : ∃ i' s', bss = i' ++ [s'] := by
            rcases List.eq_nil_or_concat bss with h | ⟨a, x, h⟩
            · have := HM.out; rw [h] at this; simp at this
            · exact ⟨a, x, by simpa using h⟩
          obtain ⟨t0, t1, ts', rfl⟩ : ∃ t0 t1 ts', ts = t0 :: t1 :: ts' := by
            have h := HB.out.cs.len
            rw [HL1.out] at h
            match ts, h with
            | [], h => simp at h
            | [_], h => simp at h
            | a :: b :: r, _ => exact ⟨a, b, r, rfl⟩
          have hl2' : initM'.length = m1 := by have := HL2.out; simpa using this
          have hl1' : init'.length = m1 := by have := HL1.out; simpa using this
          have hbm' : bss'.length = m1 := by have := HM.out; simpa using this
          have HL1' := Lib.hid hl1'
          have HM' := Lib.hid hbm'
          have HLEV := Lib.hid (zLevS F C t0 t1 ts' init' s s1 wo HB.out.cs (by rw [hl1']; omega))
          obtain ⟨g, cap, h7, hN⟩ := HB.out.cs.sc
          obtain ⟨pS, cS, eS, rS⟩ := row_bytes hN.last HB.out.e3 rfl
          obtain ⟨pM, cM, eM, rM⟩ := row_bytes HB.out.ns.last HB.out.e4 rfl
          have hSC : s.v.ownBlock ≠ some C := fun e => HB.out.cs.cF ((hN.feet s (by simp) C e).1)
          have hMC : sM.v.ownBlock ≠ some C := fun e => ((HB.out.f2 C ((HB.out.ns.feet sM (by simp) C e).1)).2.1) rfl
          have hoS := hN.last
          have hoM := HB.out.ns.last
          rw [HB.out.e3, bcells_length] at hoS
          rw [HB.out.e4, bcells_length] at hoM
          rw [eS] at hSC hoS
          rw [eM] at hMC hoM
          have htop := (nestM_top HB.out.ns).1
          rw [HL2.out, eM] at htop
          have hcapm : m1 + 1 + 1 ≤ cap2 := by
            obtain ⟨q2, c2, e0, hq, _⟩ := row_form HB.out.ns.row
            simp only [Value.slice.injEq] at e0
            rw [e0.2.2]
            have := HL2.out
            simp at hq this ⊢
            omega
          have HES := Lib.hid eS
          have HOS := Lib.hid hoS
          have HOM := Lib.hid hoM
          have HTOP := Lib.hid htop
          have hg2C : g2 ≠ C := (HB.out.f2 g2 hFg2).2.1
          have hs1 : (0 : Int) ≤ (m1 : Int) + 1 := by omega
          have hs2 : (m1 : Int) + 1 ≤ (cap2 : Int) := by omega
          have hs3 : ((m1 : Int) + 1).toNat = m1 + 1 := by omega
          have hs4 : (0 : Int) < (m1 : Int) + 1 := by omega
          have hs5 : (m1 : Int) < (m1 : Int) + 1 := by omega
          have hs6 : (0 : Int) ≤ (m1 : Int) := by omega
          clear hl1' hl2' hbm' h7 hN eS rS eM rM hoS hoM htop hm0'
          rw [HES.out] at HLEV
          go_wp2_with (fail)
          refine HLEV.out.mono ?_
          rintro e w2 ⟨rfl, hcs2, ht2⟩
          have hk2 : ∀ k, k < wo.heap.size → k ≠ C → w2.heap[k]? = wo.heap[k]? := fun k hk hne => ht2.block k hk hne
          have hc2 : w2.cell? ⟨g2, m1 + 1, none⟩ = some (.slice pM b.length cM) := (World.cell?_of_block (a := ⟨g2, m1 + 1, none⟩) (hk2 g2 hg2w hg2C)).trans HTOP.out
          have hr1 : RowAt w2 pS b.length b := RowAt.of_own (row_keep HOS.out (fun k hk => hk2 k (row_lt HOS.out hk) (fun e => hSC (e ▸ hk))))
          have hr2 : RowAt w2 pM b.length b := RowAt.of_own (row_keep HOM.out (fun k hk => hk2 k (row_lt HOM.out hk) (fun e => hMC (e ▸ hk))))
          have HEQ2 : Hid (Calls Tryf.prog 21 #[.slice pS b.length cS, .slice pM b.length cM] w2 fun e w' => e = .returned (.bool true) ∧ Below w2.heap.size w2 w') := Lib.hid ((zzEqual pS pM b.length cS b.length cM b b w2 hr1 hr2 (by omega)).mono (by rintro e w' ⟨rfl, h2⟩; exact ⟨by simp, h2⟩))
          have hpop := HB.out.pop hbs hcs2 (ht2.mono (fun k _ h => .inr h))
          have HPOP := Lib.hid hpop
          clear hcs2 ht2 hk2 hr1 hr2 HLEV hpop
          go_wp2_with (fail)
          refine HEQ2.out.mono ?_
          rintro e w6 ⟨rfl, hb26⟩
          have hB6 := HPOP.out.1.keep hb26
          have hb6 := HPOP.out.2.trans (hb26.mono (by have := HPOP.out.2.size; omega))
          obtain ⟨pS6, pM6, cS6, cM6, hT6⟩ := hB6.tops (by rw [HM'.out]; omega) (by have := HLL.out b1 (by simp); omega)
          rw [HM'.out] at hT6
          have HR6 : Hid (Rl base w1 w6 C (i + 1) m1 g2 cap2) := Lib.hid ⟨_, _, _, _, _, _, _, _, _, hB6, HM'.out, by omega, fun l hl => by
            rcases List.mem_cons.1 hl with rfl | hl
            · have := HLL.out l (by simp); omega
            · have := HLL.out l (by simp [hl]); omega, HBEL.out.trans hb6, Nat.le_trans hbs hb6.size⟩
          have HT6 := Lib.hid hT6
          obtain ⟨b6, hb6e⟩ : ∃ b6, b6 = b1 := ⟨_, rfl⟩
          rw [← hb6e] at HT6
          clear hT6 hB6 hb6 hb6e hb26 HEQ2 hc2
          go_wp2
          have hS := HT6.out.top
          have hlt6 := HT6.out.lt
          have hwm : IntKind.i64.wrap (m1 : Int) = (m1 : Int) := IntWalk.i64_in _ (by omega)
          have hwm2 : (0 : Int) ≤ (m1 : Int) := by omega
          go_region_held3 (fun w' => w'.cell? ⟨g2, m1, none⟩ = some (.slice pM6 b6.length cM6)) (first | go_keep | exact (hb7.cell (p := ⟨g2, m1, none⟩) (by simpa using hlt6)).trans hS)
            (first | (go_at_call 17; refine (HT6.out.cur _ (by exact below_drewN (Below.refl _ _))).mono ?_; rintro e w' ⟨rfl, k7, rfl⟩) | (go_at_call 21; refine (HT6.out.eq _ (by exact below_drewN (Below.refl _ _))).mono ?_; rintro e w7 ⟨rfl, hb7⟩))
          have hb67 : Below w6.heap.size w6 w7 := ⟨hb7.os, hb7.tape, hb7.output, hb7.size, hb7.block⟩
          have HB67 := Lib.hid hb67
          clear hb7 hb67 hS hwm hwm2
          go_wp2
          go_roundw
          case rel => exact ⟨i + 1, m1, g2, cap2, hlt, by omega, by go_num, rfl, Lib.hid (HR6.out.keep HB67.out)⟩
          case measure => simp [intOf]; omega
    · obtain rfl : i = os.length := by omega
      go_wp2
      go_ret
      obtain ⟨_, _, _, _, _, _, _, _, _, _, _, _, _, hb, _⟩ := HR.out
      exact ⟨rfl, HW.out.2 _ hb⟩

set_option maxHeartbeats 1000000 in
theorem curLaw (p : Option Addr) (cap : Nat) (os : List UInt8) (w : World) (hr : RowAt w p os.length os) (hc : p = none → cap = 0) (hs : os.length ≤ 140737488351232) :
    Calls Tryf.prog 4 #[.slice p os.length cap] w fun e w' => e = .returned (.bool true) ∧ Below w.heap.size w w' := by
  by_cases h1 : 1048576 < os.length
  · have hd := guardCur p os.length cap false w hs (by simp; omega)
    clear hr hc hs h1
    go_enter Tryf.func4, Tryf.ntmps4
    go_wp2_with (fail)
    refine hd.mono ?_
    rintro e w' ⟨rfl, rfl⟩
    go_wp2
    go_ret
    exact ⟨rfl, Below.refl _ _⟩
  by_cases h2 : 4096 < os.length
  · have hd := guardCur p os.length cap true w hs (by simp; omega)
    have hI : decide ((4096 : Int) < (os.length : Int)) = true := by simp; omega
    clear hr hc hs h1
    go_enter Tryf.func4, Tryf.ntmps4
    go_wp2_with (fail)
    refine hd.mono ?_
    rintro e w' ⟨rfl, rfl⟩
    go_wp2
    go_ret
    exact ⟨rfl, Below.refl _ _⟩
  exact curMain p cap os w hr hc (by omega)
end Go.Proofs.YtiohjlnebeifaaaFmt.Sc
namespace Go.Proofs.YtiohjlnebeifaaaFmt
theorem fnCurrentInstructionsFollowsScopeStack.walk (a0 : Option Addr) (len0 cap0 : Nat) (z0 : List Int) (w : World) (w0 : LawFrame.IsRow .u8 1 w a0 len0 cap0 z0) :
    Calls Tryf.prog 4 #[.slice a0 len0 cap0] w fun e w' => e = .returned (.bool true) ∧ RowKit.Below w.heap.size w w' := by
  obtain ⟨bs, h1, h2, _, h4⟩ := Go.Fmt.rowAt_of w0
  obtain rfl := h1.len
  exact Sc.curLaw a0 cap0 bs w h1 h2 h4
end Go.Proofs.YtiohjlnebeifaaaFmt
