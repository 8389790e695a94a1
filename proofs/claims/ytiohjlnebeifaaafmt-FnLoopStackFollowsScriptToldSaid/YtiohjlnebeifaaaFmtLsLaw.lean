/- The law FnLoopStackFollowsScript: its walk. -/
import Derived.Test.YtiohjlnebeifaaaFmtLs2
import Derived.Test.YtiohjlnebeifaaaFmtClone
import Derived.Test.YtiohjlnebeifaaaFmtRow2
import Derived.IntWalk
namespace Go.Proofs.YtiohjlnebeifaaaFmt.Lp
set_option linter.unusedSimpArgs false
open Go.ChangeShapes Go.WideShapes Go.ChangeAt Go.RowKit Go.Nest Go.Fmt Go.Proofs.YtiohjlnebeifaaaFmt.Fm

theorem infoI : (Tryf.prog.info? 3).map (fun i => (i.zero, i.size, i.bytes)) = some (some (.int .i64 0), 1, 8) := by kernel_rfl
theorem infoIS : (Tryf.prog.info? 31).map (fun i => (i.zero, i.size, i.bytes)) = some (some (.slice none 0 0), 1, 24) := by kernel_rfl
theorem infoLp : (Tryf.prog.info? 33).map (·.size) = some 2 := by kernel_rfl
set_option maxHeartbeats 1000000 in
theorem guardLoop (p : Option Addr) (l c : Nat) (b : Bool) (w : World) (hsz : l ≤ 140737488351232) (hb : decide (l ≤ 1048576) = b) :
    Calls Tryf.prog 7 #[.slice p l c] w fun e w' => e = .returned (.bool b) ∧ w = w' := by
  subst hb
  by_cases h : l ≤ 1048576
  all_goals
    go_enter Tryf.func7, Tryf.ntmps7
    go_wp2
    go_ret
    exact ⟨by simp [h], rfl⟩
theorem below_drewN {B n : Nat} {w w' : World} (h : Below B w w') : Below B w (w'.drewN n) := ⟨h.os, h.tape, h.output, h.size, h.block⟩
theorem ptr_ne2 {w : World} {a b : Nat} (ha : ∃ c t, w.heap[a]? = some (.cells c t (0, 0))) (hb : ∃ c t, w.heap[b]? = some (.cells c t (0, 0))) (hne : a ≠ b) : (binOp .eql 27 (.pointer (some ⟨a, 0, none⟩)) (.pointer (some ⟨b, 0, none⟩))).run Tryf.prog w = .ok (.bool false) w := by
  obtain ⟨ca, ta, h1⟩ := ha
  obtain ⟨cb, tb, h2⟩ := hb
  obtain ⟨j, hj, hs⟩ := Option.map_eq_some_iff.1 infoLp
  exact run_eql_ptr_other w Tryf.underlying27 hj (by omega) (fun e => hne (congrArg Addr.block e)) h1 h2
theorem ptr_neq2 (w : World) (a : Addr) : (binOp .neq 27 (.pointer (some a)) (.pointer (some a))).run Tryf.prog w = .ok (.bool false) w := by
  obtain ⟨j, hj, hs⟩ := Option.map_eq_some_iff.1 infoLp
  exact Lib.run_neq_ptr_same w a Tryf.underlying27 hj

/-- What holds at a round's head. -/
def RL (base : Nat) (w0 w : World) (C i n g0 g1 g2 c0 c1 c2 : Nat) : Prop := ∃ (vC : Value) (ls : List Nat) (v : Ix → Value) (hs : Hs), LS w base C vC ls v hs hs ∧ ls.length = n ∧ n ≤ i ∧ (∀ j, (brk hs j).length ≤ i ∧ (cnt hs j).length ≤ i) ∧
  v (0, 0) = .slice (some ⟨g0, 0, none⟩) n c0 ∧ v (1, 0) = .slice (some ⟨g1, 0, none⟩) n c1 ∧ v (2, 0) = .slice (some ⟨g2, 0, none⟩) n c2 ∧ Below base w0 w
theorem RL.drewN {base : Nat} {w0 w : World} {C i n g0 g1 g2 c0 c1 c2 : Nat} (h : RL base w0 w C i n g0 g1 g2 c0 c1 c2) (k : Nat) : RL base w0 (w.drewN k) C i n g0 g1 g2 c0 c1 c2 := by
  obtain ⟨vC, ls, v, hs, h1, h2, h3, h4, h5, h6, h7, h8⟩ := h
  exact ⟨vC, ls, v, hs, h1.drewN, h2, h3, h4, h5, h6, h7, below_drewN h8⟩
/-- The rows that the law holds, where the compiler's blocks have turned. -/
theorem LS.rows {base : Nat} {w w1 : World} {C : Nat} {vC : Value} {ls : List Nat} {v : Ix → Value} {hs hc : Hs} (h : LS w base C vC ls v hs hc) (ht : Turned (LF C vC) w w1) (i : Ix) (hi : act ls.length i) : w1.ownsRow 0 (ety i) 1 (v i) (cont ls v hs hc i).length (cont ls v hs hc i) :=
  row_keep (h.fam.row i hi) (fun k hk => ht.block k (row_lt (h.fam.row i hi) hk) (fun hf => h.fam.out i k hi hk (.inr (.inl hf))))

/-- What a round's end calls and reads. -/
theorem RL.cur0 {base : Nat} {w0 w : World} {C i g0 g1 g2 c0 c1 c2 : Nat} (h : RL base w0 w C i 0 g0 g1 g2 c0 c1 c2) : Calls Tryf.prog 10 #[.pointer (some ⟨C, 0, none⟩)] w fun e w' => e = .returned (.pointer none) ∧ ∃ k, w' = w.drewN k := by
  obtain ⟨vC, ls, v, hs, h1, h2, _⟩ := h
  obtain rfl : ls = [] := List.length_eq_zero_iff.1 h2
  exact zCurT C vC [] w h1.comp (by simp)
theorem RL.cur1 {base : Nat} {w0 w : World} {C i n g0 g1 g2 c0 c1 c2 : Nat} (h : RL base w0 w C i (n + 1) g0 g1 g2 c0 c1 c2) (hi : i ≤ 1000000) : ∃ l, Calls Tryf.prog 10 #[.pointer (some ⟨C, 0, none⟩)] w (fun e w' => e = .returned (.pointer (some ⟨l, 0, none⟩)) ∧ ∃ k, w' = w.drewN k) ∧ w.cell? ⟨g0, n, none⟩ = some (.pointer (some ⟨l, 0, none⟩)) := by
  obtain ⟨vC, ls, v, hs, h1, h2, h3, h4, h5, h6, h7, h8⟩ := h
  have hj : n < ls.length := by omega
  have e : ls.getLast?.map (fun l => (⟨l, 0, none⟩ : Addr)) = some ⟨ls[n], 0, none⟩ := by
    rw [List.getLast?_eq_getElem?, h2, Nat.add_sub_cancel, List.getElem?_eq_getElem hj]; rfl
  have hc := zCurT C vC ls w h1.comp (by omega)
  rw [e] at hc
  exact ⟨ls[n], hc, (h1.at h5 h6 h7 (fun j => ⟨Nat.le_trans (h4 j).1 hi, Nat.le_trans (h4 j).2 hi⟩) n hj).cp⟩
theorem RL.idx {base : Nat} {w0 w : World} {C i n g0 g1 g2 c0 c1 c2 : Nat} (h : RL base w0 w C i n g0 g1 g2 c0 c1 c2) : Calls Tryf.prog 13 #[.pointer (some ⟨C, 0, none⟩)] w fun e w' => e = .returned (.int .i64 ((n : Int) - 1)) ∧ w = w' := by
  obtain ⟨vC, ls, v, hs, h1, rfl, _⟩ := h
  exact zIdxT C vC ls w h1.comp
theorem RL.num {base : Nat} {w0 w : World} {C i n g0 g1 g2 c0 c1 c2 : Nat} (h : RL base w0 w C i n g0 g1 g2 c0 c1 c2) : Calls Tryf.prog 14 #[.pointer (some ⟨C, 0, none⟩)] w fun e w' => e = .returned (.int .i64 (n : Int)) ∧ w = w' := by
  obtain ⟨vC, ls, v, hs, h1, rfl, _⟩ := h
  exact zNumT C vC ls w h1.comp
theorem RL.at {base : Nat} {w0 w : World} {C i n g0 g1 g2 c0 c1 c2 : Nat} (h : RL base w0 w C i n g0 g1 g2 c0 c1 c2) (hi : i ≤ 1000000) (j : Nat) (hj : j < n) : ∃ l a b c d, At w g0 g1 g2 j l a b c d := by
  obtain ⟨vC, ls, v, hs, h1, rfl, h3, h4, h5, h6, h7, h8⟩ := h
  exact ⟨_, _, _, _, _, h1.at h5 h6 h7 (fun j => ⟨Nat.le_trans (h4 j).1 hi, Nat.le_trans (h4 j).2 hi⟩) j hj⟩

theorem news_s (w : World) (v : Value) (n : Nat) (e : TypeId) (hn : w.heap.size = n) : ∀ j u, [v][j]? = some u → (w.alloc (.cells #[v] e)).cell? ((⟨n, 0, none⟩ : Addr).add j) = some u := by
  subst hn
  exact cell_one_new w v e
theorem RL.step {base : Nat} {w0 w : World} {C i n g0 g1 g2 c0 c1 c2 : Nat} (h : RL base w0 w C i n g0 g1 g2 c0 c1 c2) : RL base w0 w C (i + 1) n g0 g1 g2 c0 c1 c2 := by
  obtain ⟨vC, ls, v, hs, h1, h2, h3, h4, h5⟩ := h
  exact ⟨vC, ls, v, hs, h1, h2, by omega, fun j => ⟨by have := (h4 j).1; omega, by have := (h4 j).2; omega⟩, h5⟩
theorem at_of {v : Value} {g n cap B H : Nat} (h : v.ownBlock = some g ∨ g = H) (hH : B ≤ H) : ∀ k, (Value.slice (some ⟨g, 0, none⟩) n cap).ownBlock = some k → v.ownBlock = some k ∨ B ≤ k := by
  intro k hk
  have e : g = k := by simpa [Value.ownBlock] using hk
  subst e
  rcases h with h | h
  · exact .inl h
  · exact .inr (by omega)
theorem turned_app {w w3 : World} {o : Obj} {v : Value} (h : (w.alloc o).grownBy w3 v.ownBlock) : Turned (fun k => v.ownBlock = some k) w w3 :=
  (Turned.alloc _ w o).trans (Turned.grown h (F := fun k => v.ownBlock = some k) (fun _ hk => hk)) (fun _ hk => .inl hk)
theorem row_empty (w : World) (e : TypeId) : (w.alloc (.cells #[] e)).ownsRow 0 e 1 (.slice (some ⟨w.heap.size, 0, none⟩) 0 0) 0 [] :=
  ⟨rfl, .inr ⟨w.heap.size, 0, #[], rfl, Nat.zero_le _, heap_alloc_new w _, Nat.le_refl _, by decide, rfl, rfl⟩⟩
theorem brk_snoc (hs : Hs) (j : Nat) : brk (hs ++ [([], [])]) j = brk hs j := by
  unfold brk
  rw [List.getElem?_append]
  split
  · rfl
  · rename_i h
    rw [List.getElem?_eq_none (by omega : hs.length ≤ j)]
    cases hj : j - hs.length <;> rfl
theorem cnt_snoc (hs : Hs) (j : Nat) : cnt (hs ++ [([], [])]) j = cnt hs j := by
  unfold cnt
  rw [List.getElem?_append]
  split
  · rfl
  · rename_i h
    rw [List.getElem?_eq_none (by omega : hs.length ≤ j)]
    cases hj : j - hs.length <;> rfl
theorem brk_take (hs : Hs) (n j : Nat) : (brk (hs.take n) j).length ≤ (brk hs j).length ∧ (cnt (hs.take n) j).length ≤ (cnt hs j).length := by
  unfold brk cnt
  rw [List.getElem?_take]
  split
  · exact ⟨Nat.le_refl _, Nat.le_refl _⟩
  · exact ⟨Nat.zero_le _, Nat.zero_le _⟩
section
variable {base : Nat} {w w1 : World} {C n : Nat} {vC X : Value} {ls : List Nat} {v : Ix → Value} {hs hc : Hs}
theorem LS.row0 (h : LS w base C vC ls v hs hc) (ht : Turned (LF C vC) w w1) (hn : ls.length = n) (hv : v (0, 0) = X) : w1.ownsRow 0 27 1 X n (ptrs ls) := by
  have := h.rows ht (0, 0) (act_top (by decide))
  rw [hv, show cont ls v hs hc (0, 0) = ptrs ls from rfl, ptrs_length, hn] at this
  exact this
theorem LS.row1 (h : LS w base C vC ls v hs hc) (ht : Turned (LF C vC) w w1) (hn : ls.length = n) (hv : v (1, 0) = X) : w1.ownsRow 0 31 1 X n (col v 3 n) := by
  have := h.rows ht (1, 0) (act_top (by decide))
  rw [hv, show cont ls v hs hc (1, 0) = col v 3 ls.length from rfl, col_length, hn] at this
  exact this
theorem LS.row2 (h : LS w base C vC ls v hs hc) (ht : Turned (LF C vC) w w1) (hn : ls.length = n) (hv : v (2, 0) = X) : w1.ownsRow 0 31 1 X n (col v 4 n) := by
  have := h.rows ht (2, 0) (act_top (by decide))
  rw [hv, show cont ls v hs hc (2, 0) = col v 4 ls.length from rfl, col_length, hn] at this
  exact this
theorem LS.cur {m : Nat} (h : LS w base C vC ls v hs hc) (hn : ls.length = m + 1) (hl : m ≤ 1000000) : Calls Tryf.prog 10 #[.pointer (some ⟨C, 0, none⟩)] w fun e w' => e = .returned (.pointer (some ⟨ls[m]'(by omega), 0, none⟩)) ∧ ∃ k, w' = w.drewN k := by
  have e : ls.getLast?.map (fun l => (⟨l, 0, none⟩ : Addr)) = some ⟨ls[m]'(by omega), 0, none⟩ := by
    rw [List.getLast?_eq_getElem?, show ls.length - 1 = m by omega, List.getElem?_eq_getElem (by omega)]; rfl
  have hc := zCurT C vC ls w h.comp (by omega)
  rw [e] at hc
  exact hc
/-- Row k of loop j. -/
theorem LS.rowIn (h : LS w base C vC ls v hs hc) (k j : Nat) (hk : k = 3 ∨ k = 4 ∨ k = 5 ∨ k = 6) (hj : j < ls.length) (xs : List Int) (hx : cont ls v hs hc (k, j) = ints xs) : ∃ p c, v (k, j) = .slice p xs.length c ∧ w.ownsRow 0 3 1 (.slice p xs.length c) xs.length (ints xs) := by
  have hr := h.fam.row (k, j) (act_row (by omega) (by omega) hj)
  rw [hx, ints_length, show ety (k, j) = 3 by rcases hk with rfl | rfl | rfl | rfl <;> rfl] at hr
  obtain ⟨p, c, e, _⟩ := row_form hr
  rw [e] at hr
  exact ⟨p, c, e, hr⟩
end

set_option maxRecDepth 100000 in
set_option maxHeartbeats 16000000 in
theorem loopMain (p : Option Addr) (cap : Nat) (os : List UInt8) (w : World) (hr : RowAt w p os.length os) (hc : p = none → cap = 0) (hs : os.length ≤ 4096) :
    Calls Tryf.prog 3 #[.slice p os.length cap] w fun e w' => e = .returned (.bool true) ∧ Below w.heap.size w w' := by
  obtain ⟨iP, hiP⟩ := info_parts infoP
  obtain ⟨iI, hiI⟩ := info_parts infoI
  obtain ⟨iS, hiS⟩ := info_parts infoIS
  have HP := Lib.hid hiP
  have HI := Lib.hid hiI
  have HS := Lib.hid hiS
  have HC := Lib.hid (zzClone p os.length cap os w hr (by omega) hc)
  have hsI : decide ((4096 : Int) < (os.length : Int)) = false := by simp; omega
  clear hr hc hiP hiI hiS
  go_enter Tryf.func3, Tryf.ntmps3
  go_wp2_with (fail)
  refine (guardLoop p os.length cap true w (by omega) (by simp; omega)).mono ?_
  rintro e w' ⟨rfl, rfl⟩
  go_wp2_with (fail)
  refine HC.out.mono ?_
  intro e w1 hcp
  have hcq : ∃ q c, e = .returned (.slice q os.length c) ∧ RowAt w1 q os.length os ∧ Below w.heap.size w w1 := by
    rcases hcp with ⟨rfl, rfl, rfl, rfl⟩ | ⟨g, rfl, hown, hb⟩
    · exact ⟨none, 0, rfl, .inl ⟨rfl, rfl, rfl⟩, Below.refl _ _⟩
    · exact ⟨some ⟨g, 0, none⟩, _, rfl, RowAt.of_own hown, hb⟩
  obtain ⟨q, c, rfl, hrow1, hb1⟩ := hcq
  have HROW := Lib.hid hrow1
  have HB1 := Lib.hid hb1
  clear hcp hrow1 hb1 HC
  go_wp2_with (fail)
  refine (newLC w1).mono ?_
  rintro e w2 ⟨C, rfl, hC, hLC, hb2⟩
  have HLC := Lib.hid hLC
  have HB2 := Lib.hid hb2
  have HCU : Hid (Calls Tryf.prog 10 #[.pointer (some ⟨C, 0, none⟩)] w2 fun e w' => e = .returned (.pointer none) ∧ ∃ n, w' = w2.drewN n) := Lib.hid (zCurT C _ [] w2 hLC (by simp))
  clear hLC hb2
  go_wp2_with (fail)
  refine HCU.out.mono ?_
  rintro e w' ⟨rfl, k0, rfl⟩
  obtain ⟨w3, hw3⟩ : ∃ w3, w3 = w2.drewN k0 := ⟨_, rfl⟩
  have HLC3 : Hid (LC w3 C (.slice none 0 0) [] ∧ Below w1.heap.size w1 w3) := Lib.hid (by rw [hw3]; exact ⟨HLC.out.drewN, below_drewN HB2.out⟩)
  rw [← hw3]
  clear hw3 HCU HLC HB2
  have hmk : ∃ w4 w5 w6, (Instr.makeSlice 29 (.int .i64 0) (.int .i64 (os.length : Int))).run Tryf.prog w3 = .ok (.slice (some ⟨w3.heap.size, 0, none⟩) 0 os.length) w4 ∧ (Instr.makeSlice 30 (.int .i64 0) (.int .i64 (os.length : Int))).run Tryf.prog w4 = .ok (.slice (some ⟨w4.heap.size, 0, none⟩) 0 os.length) w5 ∧
      (Instr.makeSlice 30 (.int .i64 0) (.int .i64 (os.length : Int))).run Tryf.prog w5 = .ok (.slice (some ⟨w5.heap.size, 0, none⟩) 0 os.length) w6 ∧ Hid (RL w1.heap.size w1 w6 C 0 0 w3.heap.size w4.heap.size w5.heap.size os.length os.length os.length) ∧ w1.heap.size ≤ w6.heap.size := by
    obtain ⟨w4, m4, o4, y4⟩ := run_make_own (P := Tryf.prog) w3 0 29 27 iP (.pointer none) 1 Tryf.underlying29 HP.out.1 HP.out.2.1 HP.out.2.2.1 .i64 .i64 os.length (by rw [HP.out.2.2.2]; omega) (by unfold maxLen; omega) (Nat.zero_le _)
    obtain ⟨w5, m5, o5, y5⟩ := run_make_own (P := Tryf.prog) w4 0 30 31 iS (.slice none 0 0) 1 Tryf.underlying30 HS.out.1 HS.out.2.1 HS.out.2.2.1 .i64 .i64 os.length (by rw [HS.out.2.2.2]; omega) (by unfold maxLen; omega) (Nat.zero_le _)
    obtain ⟨w6, m6, o6, y6⟩ := run_make_own (P := Tryf.prog) w5 0 30 31 iS (.slice none 0 0) 1 Tryf.underlying30 HS.out.1 HS.out.2.1 HS.out.2.2.1 .i64 .i64 os.length (by rw [HS.out.2.2.2]; omega) (by unfold maxLen; omega) (Nat.zero_le _)
    have b4 : Below w3.heap.size w3 w4 := (Below.refl _ _).grown y4 (Nat.le_refl _) (fun k hk => by cases hk)
    have b5 : Below w4.heap.size w4 w5 := (Below.refl _ _).grown y5 (Nat.le_refl _) (fun k hk => by cases hk)
    have b6 : Below w5.heap.size w5 w6 := (Below.refl _ _).grown y6 (Nat.le_refl _) (fun k hk => by cases hk)
    have l4 : w3.heap.size < w4.heap.size := row_lt o4 rfl
    have l5 : w4.heap.size < w5.heap.size := row_lt o5 rfl
    have l6 := b6.size
    have hlc := HLC3.out.1
    have hC3 := hlc.lt
    have b46 : Below w4.heap.size w4 w6 := b5.trans (b6.mono (by omega))
    have b36 : Below w3.heap.size w3 w6 := b4.trans (b46.mono (by omega))
    have hls : LS w6 w1.heap.size C (.slice none 0 0) [] (pushV (fun _ => .slice none 0 0) 0 (.slice (some ⟨w3.heap.size, 0, none⟩) 0 os.length) (.slice (some ⟨w4.heap.size, 0, none⟩) 0 os.length) (.slice (some ⟨w5.heap.size, 0, none⟩) 0 os.length) (.slice none 0 0) (.slice none 0 0)) [] [] :=
      LS.start (hlc.turned (F := fun _ => False) (Turned.of_below b36) (fun _ _ hf => hf)) hC rfl rfl rfl (row_keep o4 (fun k hk => b46.block k (row_lt o4 hk))) (row_keep o5 (fun k hk => b6.block k (row_lt o5 hk))) o6 hC3 l4 l5
    exact ⟨w4, w5, w6, m4, m5, m6, Lib.hid ⟨_, _, _, _, hls, rfl, Nat.le_refl _, fun j => by simp [brk, cnt], rfl, rfl, rfl, HLC3.out.2.trans (b36.mono HLC3.out.2.size)⟩, by have := HLC3.out.2.size; omega⟩
  obtain ⟨w4, w5, w6, m4, m5, m6, HRL, hbs⟩ := hmk
  have HB : Hid (∀ W, Below w1.heap.size w1 W → Below w.heap.size w W) := Lib.hid (fun W h => HB1.out.trans (h.mono HB1.out.size))
  obtain ⟨base, hbase⟩ : ∃ base, base = w1.heap.size := ⟨_, rfl⟩
  have HBASE := Lib.hid hbase
  rw [← hbase] at HRL hbs HB hC
  clear HLC3 HB1 hbase
  go_wp2_with (fail)
  obtain ⟨b0, hb0⟩ : ∃ b0, b0 = w3.heap.size := ⟨_, rfl⟩
  obtain ⟨b1, hb1⟩ : ∃ b1, b1 = w4.heap.size := ⟨_, rfl⟩
  obtain ⟨b2, hb2⟩ : ∃ b2, b2 = w5.heap.size := ⟨_, rfl⟩
  rw [← hb0, ← hb1, ← hb2] at HRL ⊢
  clear m4 m5 m6 hb0 hb1 hb2 hsI hbs
  go_loopw [4, 5, 6, 7] (fun s4 s5 s6 iv wr => ∃ i n g0 g1 g2 c0 c1 c2 : Nat, i ≤ os.length ∧ n ≤ i ∧ iv = .int .i64 i ∧ s4 = .slice (some ⟨g0, 0, none⟩) n c0 ∧ s5 = .slice (some ⟨g1, 0, none⟩) n c1 ∧ s6 = .slice (some ⟨g2, 0, none⟩) n c2 ∧ Hid (RL base w1 wr C i n g0 g1 g2 c0 c1 c2)) (fun _ _ _ iv _ => os.length - (intOf iv).toNat)
  case atStart => exact ⟨0, 0, b0, b1, b2, _, _, _, Nat.zero_le _, Nat.le_refl _, rfl, rfl, rfl, rfl, HRL⟩
  case round =>
    obtain ⟨i, n, g0, g1, g2, c0, c1, c2, hin, hni, rfl, rfl, rfl, rfl, HR⟩ := hrel
    obtain ⟨wo, hwo⟩ : ∃ wo : World, wo = wr := ⟨_, rfl⟩
    subst hwo
    by_cases hlt : i < os.length
    · obtain ⟨vC, ls, v, hs', hLS, hn, _, hll, hv0, hv1, hv2, hbel⟩ := HR.out
      have hrow := HROW.out
      rcases hrow with ⟨_, _, h0⟩ | ⟨x, rfl, _, hx⟩
      · rw [h0] at hlt; simp at hlt
      have hx0 := hx i hlt
      have hx1 := (hbel.cell (by rw [HBASE.out]; exact World.block_lt_of_cell? w1 _ hx0)).trans hx0
      have hi0 : (0 : Int) ≤ (i : Int) := by omega
      have hi1 : (i : Int) < (os.length : Int) := by omega
      have hb0 : os[i].toNat < 256 := UInt8.toNat_lt _
      obtain ⟨y, hy⟩ : ∃ y, y = os[i].toNat := ⟨_, rfl⟩
      have hx2 : wo.cell? (x.add i) = some (.int .u8 (y : Int)) := by rw [hy]; exact hx1
      rw [← hy] at hb0
      have HLS := Lib.hid hLS
      have HN := Lib.hid hn
      have HLL := Lib.hid hll
      have HV := Lib.hid (And.intro hv0 (And.intro hv1 hv2))
      have HBEL := Lib.hid hbel
      clear hLS hn hll hv0 hv1 hv2 hbel hx hx0 hx1 hy
      have hr4 : ((y : Int) % 4 = 0 ∨ (y : Int) % 4 = 1) ∨ (y : Int) % 4 = 2 ∨ (y : Int) % 4 = 3 := by omega
      rcases hr4 with (hr4 | hr4) | hr4 | hr4
      · as_aux_lemma =>
          have hl := HN.out
          have HENT := Lib.hid (zEnterT C vC ls wo HLS.out.comp (by omega))
          clear hl
          go_wp2_with (fail)
          refine HENT.out.mono ?_
          rintro e w2 ⟨rfl, ⟨vC', hc1, hat1⟩, ht1, hnew⟩
          have k1 : w2.cell? ⟨wo.heap.size, 1, none⟩ = some (.slice none 0 0) := by simp [World.cell?, hnew]
          have k2 : w2.cell? ⟨wo.heap.size, 0, none⟩ = some (.slice none 0 0) := by simp [World.cell?, hnew]
          have HC1 := Lib.hid hc1
          have HAT1 := Lib.hid hat1
          have HT1 := Lib.hid ht1
          have HNEW := Lib.hid hnew
          have HO0 := Lib.hid (HLS.out.row0 ht1 HN.out HV.out.1)
          have HO1 := Lib.hid (HLS.out.row1 ht1 HN.out HV.out.2.1)
          have HO2 := Lib.hid (HLS.out.row2 ht1 HN.out HV.out.2.2)
          have HRD : Hid (∀ j (hj : j < ls.length), w2.cell? ⟨g0, j, none⟩ = some (.pointer (some ⟨ls[j], 0, none⟩)) ∧ (binOp .eql 27 (.pointer (some ⟨ls[j], 0, none⟩)) (.pointer (some ⟨wo.heap.size, 0, none⟩))).run Tryf.prog w2 = .ok (.bool false) w2) := Lib.hid (fun j hj => by
            have hin : ls[j] ∈ ls := List.getElem_mem hj
            have hlj := HLS.out.lt _ (.inr hin)
            obtain ⟨cc, tt, eb⟩ := HLS.out.blk _ hin
            exact ⟨(row_cell HO0.out (by simp [ptrs, List.getElem?_eq_getElem hj])).1, ptr_ne2 ⟨cc, tt, (ht1.block _ hlj (HLS.out.apart _ hin)).trans eb⟩ ⟨_, _, hnew⟩ (by omega)⟩)
          clear hc1 hat1 ht1 hnew HENT
          go_wp2_with (fail)
          go_loop [9] (fun jv => ∃ j : Nat, j ≤ n ∧ jv = .int .i64 j) (fun jv => n - (intOf jv).toNat)
          case atStart => exact ⟨0, Nat.zero_le _, rfl⟩
          case round =>
            obtain ⟨j, hjn, rfl⟩ := hrel
            by_cases hlt2 : j < n
            · obtain ⟨q1, q2⟩ := HRD.out j (by have := HN.out; omega)
              obtain ⟨l8, hl8⟩ : ∃ l8, l8 = ls[j]'(by have := HN.out; omega) := ⟨_, rfl⟩
              rw [← hl8] at q1 q2
              have s1 : (0 : Int) ≤ (j : Int) := by omega
              have s2 : (j : Int) < (n : Int) := by omega
              clear hl8
              go_wp2
              go_round
              case rel => exact ⟨j + 1, hlt2, by go_num⟩
              case measure => simp [intOf]; omega
            · obtain rfl : j = n := by omega
              clear HRD k1 k2
              go_upto_region 35 with ((at_builtin; refine wpList_append_lies _ rfl _ _ 29 rfl 0 27 iP (.pointer none) 1 8 Tryf.underlying29 HP.out.1 HP.out.2.1 HP.out.2.2.1 HP.out.2.2.2 rfl (by decide) (.slice (some ⟨g0, 0, none⟩) j c0) j (ptrs ls) rfl (HO0.out.alloc _) ⟨w2.heap.size, 0, none⟩ 1 1 [.pointer (some ⟨wo.heap.size, 0, none⟩)] rfl rfl (cell_one_new _ _ _) (by simp [Value.oneCell']) (by decide) (by unfold maxLen; omega) (by omega) (Nat.zero_le _) (w2.heap.size + 1) (by simp) ?_; intro h0 d0 w3 hown3 hgrow3 hat3 hlt3; have HO3 := Lib.hid hown3; have HG3 := Lib.hid hgrow3; have HA3 := Lib.hid hat3; have HT3 := Lib.hid (turned_app hgrow3); clear hown3 hgrow3 hat3 hlt3))
              have ho1 := row_keep HO1.out (fun k hk => HT3.out.block k (row_lt HO1.out hk) (fun hf => by
                have e1 : (1, 0) = ((0, 0) : Ix) := HLS.out.fam.sep (1, 0) (0, 0) k (act_top (by decide)) (act_top (by decide)) (by rw [HV.out.2.1]; exact hk) (by rw [HV.out.1]; exact hf)
                simp at e1))
              have ho2 := row_keep HO2.out (fun k hk => HT3.out.block k (row_lt HO2.out hk) (fun hf => by
                have e1 : (2, 0) = ((0, 0) : Ix) := HLS.out.fam.sep (2, 0) (0, 0) k (act_top (by decide)) (act_top (by decide)) (by rw [HV.out.2.2]; exact hk) (by rw [HV.out.1]; exact hf)
                simp at e1))
              have HO1' := Lib.hid ho1
              have HO2' := Lib.hid ho2
              clear ho1 ho2 HO1 HO2
              go_upto_region 36 with ((at_builtin; refine wpList_append_lies _ rfl _ _ 30 rfl 0 31 iS (.slice none 0 0) 1 24 Tryf.underlying30 HS.out.1 HS.out.2.1 HS.out.2.2.1 HS.out.2.2.2 rfl (by decide) (.slice (some ⟨g1, 0, none⟩) j c1) j (col v 3 j) rfl ((HO1'.out.alloc _).alloc _) ⟨w3.heap.size + 1, 0, none⟩ 1 1 [.slice (some ⟨w3.heap.size, 0, none⟩) 0 0] rfl rfl (news_s _ _ _ _ (by simp)) (by simp [Value.oneCell']) (by decide) (by unfold maxLen; omega) (by omega) (Nat.zero_le _) (w3.heap.size + 2) (by simp) ?_; intro h1 d1 w5 hown5 hgrow5 hat5 hlt5; have HO5 := Lib.hid hown5; have HA5 := Lib.hid hat5; have HT5 := Lib.hid (turned_app hgrow5); clear hown5 hgrow5 hat5 hlt5))
              have ho2 := row_keep HO2'.out (fun k hk => ((HT5.out.block k (by have := row_lt HO2'.out hk; simp; omega) (fun hf => by
                have e1 : (2, 0) = ((1, 0) : Ix) := HLS.out.fam.sep (2, 0) (1, 0) k (act_top (by decide)) (act_top (by decide)) (by rw [HV.out.2.2]; exact hk) (by rw [HV.out.2.1]; exact hf)
                simp at e1))).trans (Below.heap_alloc w3 _ k (row_lt HO2'.out hk)))
              have HO2'' := Lib.hid ho2
              clear ho2 HO2'
              go_upto_region 51 with ((at_builtin; refine wpList_append_lies _ rfl _ _ 30 rfl 0 31 iS (.slice none 0 0) 1 24 Tryf.underlying30 HS.out.1 HS.out.2.1 HS.out.2.2.1 HS.out.2.2.2 rfl (by decide) (.slice (some ⟨g2, 0, none⟩) j c2) j (col v 4 j) rfl ((HO2''.out.alloc _).alloc _) ⟨w5.heap.size + 1, 0, none⟩ 1 1 [.slice (some ⟨w5.heap.size, 0, none⟩) 0 0] rfl rfl (news_s _ _ _ _ (by simp)) (by simp [Value.oneCell']) (by decide) (by unfold maxLen; omega) (by omega) (Nat.zero_le _) (w5.heap.size + 2) (by simp) ?_; intro h2 d2 w6 hown6 hgrow6 hat6 hlt6; have HO6 := Lib.hid hown6; have HA6 := Lib.hid hat6; have HT6 := Lib.hid (turned_app hgrow6); clear hown6 hgrow6 hat6 hlt6))
              have HR6 : Hid (RL base w1 w6 C (i + 1) (j + 1) h0 h1 h2 d0 d1 d2) := Lib.hid (by
                have hn := HN.out
                obtain ⟨z0, z1, z2⟩ := HV.out
                have hp := HLS.out.push (l := wo.heap.size) (w3 := w3) (w4 := w3.alloc (.cells #[] 3)) (w5 := w5) (w6 := w5.alloc (.cells #[] 3)) (w7 := w6) (x0 := .slice (some ⟨h0, 0, none⟩) (j + 1) d0) (x1 := .slice (some ⟨h1, 0, none⟩) (j + 1) d1) (x2 := .slice (some ⟨h2, 0, none⟩) (j + 1) d2) (x3 := .slice (some ⟨w3.heap.size, 0, none⟩) 0 0) (x4 := .slice (some ⟨w5.heap.size, 0, none⟩) 0 0) rfl HC1.out HT1.out HAT1.out HNEW.out
                  (by rw [z0]; exact HT3.out) (by rw [hn]; exact HO3.out) (by rw [z0]; exact at_of HA3.out (by omega))
                  (Turned.alloc _ _ _) (row_empty _ _) (fun k hk => by simp [Value.ownBlock] at hk; omega)
                  (by rw [z1]; exact HT5.out) (by rw [hn]; exact HO5.out) (by rw [z1]; exact at_of HA5.out (by simp))
                  (Turned.alloc _ _ _) (row_empty _ _) (fun k hk => by simp [Value.ownBlock] at hk; omega)
                  (by rw [z2]; exact HT6.out) (by rw [hn]; exact HO6.out) (by rw [z2]; exact at_of HA6.out (by simp))
                exact ⟨_, _, _, _, hp.1, by simp [hn], by omega, fun k => by rw [brk_snoc, cnt_snoc]; have := HLL.out k; omega, by simp [pushV], by simp [pushV], by simp [pushV], HBEL.out.trans hp.2⟩)
              clear HO3 HG3 HA3 HT3 HO5 HA5 HT5 HO6 HA6 HT6 HO0 HO1' HO2'' HC1 HAT1 HT1 HNEW
              obtain ⟨l6, hcu6, hc6⟩ := HR6.out.cur1 (by omega)
              have HCU6 := Lib.hid hcu6
              clear hcu6
              have heq6 := ptr_neq2 w6 ⟨l6, 0, none⟩
              go_wp2_with (fail)
              refine HCU6.out.mono ?_
              rintro e w' ⟨rfl, k6, rfl⟩
              obtain ⟨w7, hw7⟩ : ∃ w7, w7 = w6.drewN k6 := ⟨_, rfl⟩
              have HR7 : Hid (RL base w1 w7 C (i + 1) (j + 1) h0 h1 h2 d0 d1 d2) := Lib.hid (by rw [hw7]; exact HR6.out.drewN k6)
              have hc7 : w7.cell? ⟨h0, j, none⟩ = some (.pointer (some ⟨l6, 0, none⟩)) := by rw [hw7]; exact hc6
              have HX7 : Hid (Calls Tryf.prog 13 #[.pointer (some ⟨C, 0, none⟩)] w7 fun e w' => e = .returned (.int .i64 (j : Int)) ∧ w7 = w') := Lib.hid (by have h := HR7.out.idx; rwa [show ((j + 1 : Nat) : Int) - 1 = (j : Int) by omega] at h)
              have HM7 : Hid (Calls Tryf.prog 14 #[.pointer (some ⟨C, 0, none⟩)] w7 fun e w' => e = .returned (.int .i64 ((j : Int) + 1)) ∧ w7 = w') := Lib.hid HR7.out.num
              have heq7 := ptr_neq2 w7 ⟨l6, 0, none⟩
              have hs5 : (j : Int) < (j : Int) + 1 := by omega
              have hs6 : (0 : Int) ≤ (j : Int) := by omega
              have hs7 : ((j : Int) + 1 == 0) = false := by simp; omega
              rw [← hw7]
              clear hw7 HCU6 HR6 heq6 hc6
              go_wp2_with (fail)
              refine HX7.out.mono ?_
              rintro e w' ⟨rfl, rfl⟩
              go_wp2_with (fail)
              refine HM7.out.mono ?_
              rintro e w' ⟨rfl, rfl⟩
              clear HX7 HM7
              go_wp2_with (fail)
              go_loopw [15] (fun jv wr => ∃ tt : Nat, tt ≤ (j + 1) ∧ jv = .int .i64 tt ∧ Hid (RL base w1 wr C (i + 1) (j + 1) h0 h1 h2 d0 d1 d2)) (fun jv _ => (j + 1) - (intOf jv).toNat)
              case atStart => exact ⟨0, Nat.zero_le _, rfl, HR7⟩
              case round =>
                obtain ⟨tt, htn, rfl, HRj⟩ := hrel
                obtain ⟨wp, hwp⟩ : ∃ wp : World, wp = wr := ⟨_, rfl⟩
                subst hwp
                by_cases hlt9 : tt < (j + 1)
                · obtain ⟨l8, va, vb, vc, vd, hA⟩ := HRj.out.at (by omega) tt hlt9
                  have q1 := hA.cp
                  have q2 := hA.ca
                  have q3 := hA.cb
                  have q4 := hA.cc
                  have q5 := hA.cd
                  have HE1 := Lib.hid hA.e1
                  have HE2 := Lib.hid hA.e2
                  have s1 : (0 : Int) ≤ (tt : Int) := by omega
                  have s2 : (tt : Int) < (j : Int) + 1 := by omega
                  clear hA
                  go_wp2_with (fail)
                  go_quiet ((go_at_call 15; first | (with_reducible exact Calls.quiet_of (HE1.out _)) | (with_reducible exact Calls.quiet_of (HE2.out _))))
                  clear q1 q2 q3 q4 q5 HE1 HE2
                  go_wp2_with (fail)
                  go_roundw
                  case rel => exact ⟨tt + 1, hlt9, by go_num, Lib.hid (HRj.out.drewN _)⟩
                  case measure => simp [intOf]; omega
                · obtain rfl : tt = (j + 1) := by omega
                  go_wp2_with (fail)
                  go_roundw
                  case rel => exact ⟨i + 1, (j + 1), h0, h1, h2, d0, d1, d2, hlt, by omega, by go_num, rfl, rfl, rfl, HRj⟩
                  case measure => simp [intOf]; omega
      · as_aux_lemma =>
          by_cases hn0 : n = 0
          · subst hn0
            obtain ⟨w6, hw6⟩ : ∃ w6, w6 = wo := ⟨_, rfl⟩
            have HR6 : Hid (RL base w1 w6 C (i + 1) 0 g0 g1 g2 c0 c1 c2) := Lib.hid (by rw [hw6]; exact HR.out.step)
            go_upto_region 51 with (fail)
            rw [← hw6]
            clear hw6
            have HCU6 := Lib.hid HR6.out.cur0
            go_wp2_with (fail)
            refine HCU6.out.mono ?_
            rintro e w' ⟨rfl, k6, rfl⟩
            obtain ⟨w7, hw7⟩ : ∃ w7, w7 = w6.drewN k6 := ⟨_, rfl⟩
            have HR7 : Hid (RL base w1 w7 C (i + 1) 0 g0 g1 g2 c0 c1 c2) := Lib.hid (by rw [hw7]; exact HR6.out.drewN k6)
            have HX7 : Hid (Calls Tryf.prog 13 #[.pointer (some ⟨C, 0, none⟩)] w7 fun e w' => e = .returned (.int .i64 (-1)) ∧ w7 = w') := Lib.hid HR7.out.idx
            have HM7 : Hid (Calls Tryf.prog 14 #[.pointer (some ⟨C, 0, none⟩)] w7 fun e w' => e = .returned (.int .i64 0) ∧ w7 = w') := Lib.hid HR7.out.num
            rw [← hw7]
            clear hw7 HCU6 HR6
            go_wp2_with (fail)
            refine HX7.out.mono ?_
            rintro e w' ⟨rfl, rfl⟩
            go_wp2_with (fail)
            refine HM7.out.mono ?_
            rintro e w' ⟨rfl, rfl⟩
            clear HX7 HM7
            go_wp2_with (fail)
            go_loopw [15] (fun jv wr => ∃ tt : Nat, tt ≤ 0 ∧ jv = .int .i64 tt ∧ Hid (RL base w1 wr C (i + 1) 0 g0 g1 g2 c0 c1 c2)) (fun jv _ => 0 - (intOf jv).toNat)
            case atStart => exact ⟨0, Nat.zero_le _, rfl, HR7⟩
            case round =>
              obtain ⟨tt, htn, rfl, HRj⟩ := hrel
              obtain ⟨wp, hwp⟩ : ∃ wp : World, wp = wr := ⟨_, rfl⟩
              subst hwp
              by_cases hlt9 : tt < 0
              · obtain ⟨l8, va, vb, vc, vd, hA⟩ := HRj.out.at (by omega) tt hlt9
                have q1 := hA.cp
                have q2 := hA.ca
                have q3 := hA.cb
                have q4 := hA.cc
                have q5 := hA.cd
                have HE1 := Lib.hid hA.e1
                have HE2 := Lib.hid hA.e2
                have s1 : (0 : Int) ≤ (tt : Int) := by omega
                have s2 : (tt : Int) < 0 := by omega
                clear hA
                go_wp2_with (fail)
                go_quiet ((go_at_call 15; first | (with_reducible exact Calls.quiet_of (HE1.out _)) | (with_reducible exact Calls.quiet_of (HE2.out _))))
                clear q1 q2 q3 q4 q5 HE1 HE2
                go_wp2_with (fail)
                go_roundw
                case rel => exact ⟨tt + 1, hlt9, by go_num, Lib.hid (HRj.out.drewN _)⟩
                case measure => simp [intOf]; omega
              · obtain rfl : tt = 0 := by omega
                go_wp2_with (fail)
                go_roundw
                case rel => exact ⟨i + 1, 0, g0, g1, g2, c0, c1, c2, hlt, by omega, by go_num, rfl, rfl, rfl, HRj⟩
                case measure => simp [intOf]; omega
          · obtain ⟨m, rfl⟩ : ∃ m, n = m + 1 := ⟨n - 1, by omega⟩
            have hls : ∃ ls' l5, ls = ls' ++ [l5] := by
              rcases List.eq_nil_or_concat ls with h | ⟨a, z, h⟩
              · have := HN.out; rw [h] at this; simp at this
              · exact ⟨a, z, by simpa using h⟩
            obtain ⟨ls', l5, rfl⟩ := hls
            have hm := HN.out
            have hm' : ls'.length = m := by simpa using hm
            have HLV := Lib.hid (zLeaveT C vC ls' l5 wo HLS.out.comp (by omega))
            obtain ⟨r0, r1, r2⟩ : (m + 1 ≤ c0) ∧ (m + 1 ≤ c1) ∧ (m + 1 ≤ c2) := by
              obtain ⟨z0, z1, z2⟩ := HV.out
              have o0 := HLS.out.row0 (Turned.refl _ wo) hm z0
              have o1 := HLS.out.row1 (Turned.refl _ wo) hm z1
              have o2 := HLS.out.row2 (Turned.refl _ wo) hm z2
              obtain ⟨_, _, e0, y0, _⟩ := row_form o0
              obtain ⟨_, _, e1, y1, _⟩ := row_form o1
              obtain ⟨_, _, e2, y2, _⟩ := row_form o2
              simp only [Value.slice.injEq] at e0 e1 e2
              omega
            have HM' := Lib.hid hm'
            clear hm hm' hn0
            have s1 : (0 : Int) < (m : Int) + 1 := by omega
            have s2 : (0 : Int) ≤ (m : Int) := by omega
            have s3 : (m : Int) ≤ (c0 : Int) := by omega
            have s4 : (m : Int) ≤ (c1 : Int) := by omega
            have s5 : (m : Int) ≤ (c2 : Int) := by omega
            go_wp2_with (fail)
            refine HLV.out.mono ?_
            rintro e w6 ⟨rfl, ⟨vC', hc1, hown⟩, ht1⟩
            have HR6 : Hid (RL base w1 w6 C (i + 1) m g0 g1 g2 c0 c1 c2) := Lib.hid (by
              have hm := HM'.out
              obtain ⟨z0, z1, z2⟩ := HV.out
              have hp := HLS.out.pop (v2 := fun i => if i = (0, 0) then .slice (some ⟨g0, 0, none⟩) m c0 else if i = (1, 0) then .slice (some ⟨g1, 0, none⟩) m c1 else if i = (2, 0) then .slice (some ⟨g2, 0, none⟩) m c2 else v i) ht1 hc1 hown
                (fun t => if t = 0 then g0 else if t = 1 then g1 else g2) (fun t => if t = 0 then c0 else if t = 1 then c1 else c2)
                (fun t ht => by
                  rw [hm]
                  have : t = 0 ∨ t = 1 ∨ t = 2 := by omega
                  rcases this with rfl | rfl | rfl
                  · exact z0
                  · exact z1
                  · exact z2)
                (fun t ht => by
                  rw [hm]
                  have : t = 0 ∨ t = 1 ∨ t = 2 := by omega
                  rcases this with rfl | rfl | rfl <;> simp)
                (fun k j hk => by
                  rw [if_neg (by simp; omega), if_neg (by simp; omega), if_neg (by simp; omega)])
              exact ⟨_, _, _, _, hp, hm, by omega, fun k => by have h1 := brk_take hs' ls'.length k; have h2 := HLL.out k; omega, by simp, by simp, by simp, HBEL.out.trans (ht1.below HLS.out.bs (fun k hk => HLS.out.lo k (.inl hk)))⟩)
            clear hc1 hown ht1 HLV
            go_upto_region 51 with (fail)
            by_cases hm0 : m = 0
            · subst hm0
              have HCU6 := Lib.hid HR6.out.cur0
              go_wp2_with (fail)
              refine HCU6.out.mono ?_
              rintro e w' ⟨rfl, k6, rfl⟩
              obtain ⟨w7, hw7⟩ : ∃ w7, w7 = w6.drewN k6 := ⟨_, rfl⟩
              have HR7 : Hid (RL base w1 w7 C (i + 1) 0 g0 g1 g2 c0 c1 c2) := Lib.hid (by rw [hw7]; exact HR6.out.drewN k6)
              have HX7 : Hid (Calls Tryf.prog 13 #[.pointer (some ⟨C, 0, none⟩)] w7 fun e w' => e = .returned (.int .i64 (-1)) ∧ w7 = w') := Lib.hid HR7.out.idx
              have HM7 : Hid (Calls Tryf.prog 14 #[.pointer (some ⟨C, 0, none⟩)] w7 fun e w' => e = .returned (.int .i64 0) ∧ w7 = w') := Lib.hid HR7.out.num
              rw [← hw7]
              clear hw7 HCU6 HR6
              go_wp2_with (fail)
              refine HX7.out.mono ?_
              rintro e w' ⟨rfl, rfl⟩
              go_wp2_with (fail)
              refine HM7.out.mono ?_
              rintro e w' ⟨rfl, rfl⟩
              clear HX7 HM7
              go_wp2_with (fail)
              go_loopw [15] (fun jv wr => ∃ tt : Nat, tt ≤ 0 ∧ jv = .int .i64 tt ∧ Hid (RL base w1 wr C (i + 1) 0 g0 g1 g2 c0 c1 c2)) (fun jv _ => 0 - (intOf jv).toNat)
              case atStart => exact ⟨0, Nat.zero_le _, rfl, HR7⟩
              case round =>
                obtain ⟨tt, htn, rfl, HRj⟩ := hrel
                obtain ⟨wp, hwp⟩ : ∃ wp : World, wp = wr := ⟨_, rfl⟩
                subst hwp
                by_cases hlt9 : tt < 0
                · obtain ⟨l8, va, vb, vc, vd, hA⟩ := HRj.out.at (by omega) tt hlt9
                  have q1 := hA.cp
                  have q2 := hA.ca
                  have q3 := hA.cb
                  have q4 := hA.cc
                  have q5 := hA.cd
                  have HE1 := Lib.hid hA.e1
                  have HE2 := Lib.hid hA.e2
                  have s1 : (0 : Int) ≤ (tt : Int) := by omega
                  have s2 : (tt : Int) < 0 := by omega
                  clear hA
                  go_wp2_with (fail)
                  go_quiet ((go_at_call 15; first | (with_reducible exact Calls.quiet_of (HE1.out _)) | (with_reducible exact Calls.quiet_of (HE2.out _))))
                  clear q1 q2 q3 q4 q5 HE1 HE2
                  go_wp2_with (fail)
                  go_roundw
                  case rel => exact ⟨tt + 1, hlt9, by go_num, Lib.hid (HRj.out.drewN _)⟩
                  case measure => simp [intOf]; omega
                · obtain rfl : tt = 0 := by omega
                  go_wp2_with (fail)
                  go_roundw
                  case rel => exact ⟨i + 1, 0, g0, g1, g2, c0, c1, c2, hlt, by omega, by go_num, rfl, rfl, rfl, HRj⟩
                  case measure => simp [intOf]; omega
            · obtain ⟨m2, rfl⟩ : ∃ m2, m = m2 + 1 := ⟨m - 1, by omega⟩
              clear hm0
              obtain ⟨l6, hcu6, hc6⟩ := HR6.out.cur1 (by omega)
              have HCU6 := Lib.hid hcu6
              clear hcu6
              have heq6 := ptr_neq2 w6 ⟨l6, 0, none⟩
              go_wp2_with (fail)
              refine HCU6.out.mono ?_
              rintro e w' ⟨rfl, k6, rfl⟩
              obtain ⟨w7, hw7⟩ : ∃ w7, w7 = w6.drewN k6 := ⟨_, rfl⟩
              have HR7 : Hid (RL base w1 w7 C (i + 1) (m2 + 1) g0 g1 g2 c0 c1 c2) := Lib.hid (by rw [hw7]; exact HR6.out.drewN k6)
              have hc7 : w7.cell? ⟨g0, m2, none⟩ = some (.pointer (some ⟨l6, 0, none⟩)) := by rw [hw7]; exact hc6
              have HX7 : Hid (Calls Tryf.prog 13 #[.pointer (some ⟨C, 0, none⟩)] w7 fun e w' => e = .returned (.int .i64 (m2 : Int)) ∧ w7 = w') := Lib.hid (by have h := HR7.out.idx; rwa [show ((m2 + 1 : Nat) : Int) - 1 = (m2 : Int) by omega] at h)
              have HM7 : Hid (Calls Tryf.prog 14 #[.pointer (some ⟨C, 0, none⟩)] w7 fun e w' => e = .returned (.int .i64 ((m2 : Int) + 1)) ∧ w7 = w') := Lib.hid HR7.out.num
              have heq7 := ptr_neq2 w7 ⟨l6, 0, none⟩
              have hs5 : (m2 : Int) < (m2 : Int) + 1 := by omega
              have hs6 : (0 : Int) ≤ (m2 : Int) := by omega
              have hs7 : ((m2 : Int) + 1 == 0) = false := by simp; omega
              rw [← hw7]
              clear hw7 HCU6 HR6 heq6 hc6
              go_wp2_with (fail)
              refine HX7.out.mono ?_
              rintro e w' ⟨rfl, rfl⟩
              go_wp2_with (fail)
              refine HM7.out.mono ?_
              rintro e w' ⟨rfl, rfl⟩
              clear HX7 HM7
              go_wp2_with (fail)
              go_loopw [15] (fun jv wr => ∃ tt : Nat, tt ≤ (m2 + 1) ∧ jv = .int .i64 tt ∧ Hid (RL base w1 wr C (i + 1) (m2 + 1) g0 g1 g2 c0 c1 c2)) (fun jv _ => (m2 + 1) - (intOf jv).toNat)
              case atStart => exact ⟨0, Nat.zero_le _, rfl, HR7⟩
              case round =>
                obtain ⟨tt, htn, rfl, HRj⟩ := hrel
                obtain ⟨wp, hwp⟩ : ∃ wp : World, wp = wr := ⟨_, rfl⟩
                subst hwp
                by_cases hlt9 : tt < (m2 + 1)
                · obtain ⟨l8, va, vb, vc, vd, hA⟩ := HRj.out.at (by omega) tt hlt9
                  have q1 := hA.cp
                  have q2 := hA.ca
                  have q3 := hA.cb
                  have q4 := hA.cc
                  have q5 := hA.cd
                  have HE1 := Lib.hid hA.e1
                  have HE2 := Lib.hid hA.e2
                  have s1 : (0 : Int) ≤ (tt : Int) := by omega
                  have s2 : (tt : Int) < (m2 : Int) + 1 := by omega
                  clear hA
                  go_wp2_with (fail)
                  go_quiet ((go_at_call 15; first | (with_reducible exact Calls.quiet_of (HE1.out _)) | (with_reducible exact Calls.quiet_of (HE2.out _))))
                  clear q1 q2 q3 q4 q5 HE1 HE2
                  go_wp2_with (fail)
                  go_roundw
                  case rel => exact ⟨tt + 1, hlt9, by go_num, Lib.hid (HRj.out.drewN _)⟩
                  case measure => simp [intOf]; omega
                · obtain rfl : tt = (m2 + 1) := by omega
                  go_wp2_with (fail)
                  go_roundw
                  case rel => exact ⟨i + 1, (m2 + 1), g0, g1, g2, c0, c1, c2, hlt, by omega, by go_num, rfl, rfl, rfl, HRj⟩
                  case measure => simp [intOf]; omega
      · as_aux_lemma =>
          by_cases hn0 : n = 0
          · subst hn0
            have HCU := Lib.hid HR.out.cur0
            go_wp2_with (fail)
            refine HCU.out.mono ?_
            rintro e w' ⟨rfl, k5, rfl⟩
            obtain ⟨w6, hw6⟩ : ∃ w6, w6 = wo.drewN k5 := ⟨_, rfl⟩
            have HR6 : Hid (RL base w1 w6 C (i + 1) 0 g0 g1 g2 c0 c1 c2) := Lib.hid (by rw [hw6]; exact HR.out.step.drewN k5)
            go_upto_region 51 with (fail)
            rw [← hw6]
            clear hw6 HCU
            have HCU6 := Lib.hid HR6.out.cur0
            go_wp2_with (fail)
            refine HCU6.out.mono ?_
            rintro e w' ⟨rfl, k6, rfl⟩
            obtain ⟨w7, hw7⟩ : ∃ w7, w7 = w6.drewN k6 := ⟨_, rfl⟩
            have HR7 : Hid (RL base w1 w7 C (i + 1) 0 g0 g1 g2 c0 c1 c2) := Lib.hid (by rw [hw7]; exact HR6.out.drewN k6)
            have HX7 : Hid (Calls Tryf.prog 13 #[.pointer (some ⟨C, 0, none⟩)] w7 fun e w' => e = .returned (.int .i64 (-1)) ∧ w7 = w') := Lib.hid HR7.out.idx
            have HM7 : Hid (Calls Tryf.prog 14 #[.pointer (some ⟨C, 0, none⟩)] w7 fun e w' => e = .returned (.int .i64 0) ∧ w7 = w') := Lib.hid HR7.out.num
            rw [← hw7]
            clear hw7 HCU6 HR6
            go_wp2_with (fail)
            refine HX7.out.mono ?_
            rintro e w' ⟨rfl, rfl⟩
            go_wp2_with (fail)
            refine HM7.out.mono ?_
            rintro e w' ⟨rfl, rfl⟩
            clear HX7 HM7
            go_wp2_with (fail)
            go_loopw [15] (fun jv wr => ∃ tt : Nat, tt ≤ 0 ∧ jv = .int .i64 tt ∧ Hid (RL base w1 wr C (i + 1) 0 g0 g1 g2 c0 c1 c2)) (fun jv _ => 0 - (intOf jv).toNat)
            case atStart => exact ⟨0, Nat.zero_le _, rfl, HR7⟩
            case round =>
              obtain ⟨tt, htn, rfl, HRj⟩ := hrel
              obtain ⟨wp, hwp⟩ : ∃ wp : World, wp = wr := ⟨_, rfl⟩
              subst hwp
              by_cases hlt9 : tt < 0
              · obtain ⟨l8, va, vb, vc, vd, hA⟩ := HRj.out.at (by omega) tt hlt9
                have q1 := hA.cp
                have q2 := hA.ca
                have q3 := hA.cb
                have q4 := hA.cc
                have q5 := hA.cd
                have HE1 := Lib.hid hA.e1
                have HE2 := Lib.hid hA.e2
                have s1 : (0 : Int) ≤ (tt : Int) := by omega
                have s2 : (tt : Int) < 0 := by omega
                clear hA
                go_wp2_with (fail)
                go_quiet ((go_at_call 15; first | (with_reducible exact Calls.quiet_of (HE1.out _)) | (with_reducible exact Calls.quiet_of (HE2.out _))))
                clear q1 q2 q3 q4 q5 HE1 HE2
                go_wp2_with (fail)
                go_roundw
                case rel => exact ⟨tt + 1, hlt9, by go_num, Lib.hid (HRj.out.drewN _)⟩
                case measure => simp [intOf]; omega
              · obtain rfl : tt = 0 := by omega
                go_wp2_with (fail)
                go_roundw
                case rel => exact ⟨i + 1, 0, g0, g1, g2, c0, c1, c2, hlt, by omega, by go_num, rfl, rfl, rfl, HRj⟩
                case measure => simp [intOf]; omega
          · obtain ⟨m, rfl⟩ : ∃ m, n = m + 1 := ⟨n - 1, by omega⟩
            have hm := HN.out
            have hjm : m < ls.length := by omega
            have hcu := HLS.out.cur hm (by omega)
            have HJM := Lib.hid hjm
            obtain ⟨l5, hl5⟩ : ∃ l5, l5 = ls[m]'HJM.out := ⟨_, rfl⟩
            rw [← hl5] at hcu
            have HCU := Lib.hid hcu
            have HL5 := Lib.hid hl5
            clear hcu hl5 hjm hm hn0
            go_wp2_with (fail)
            refine HCU.out.mono ?_
            rintro e w' ⟨rfl, k5, rfl⟩
            obtain ⟨w2, hw2⟩ : ∃ w2, w2 = wo.drewN k5 := ⟨_, rfl⟩
            have HLS2 : Hid (LS w2 base C vC ls v hs' hs' ∧ Below base w1 w2) := Lib.hid (by rw [hw2]; exact ⟨HLS.out.drewN, below_drewN HBEL.out⟩)
            rw [← hw2]
            clear hw2 HCU
            obtain ⟨pa, ca, ea, oa⟩ := HLS2.out.1.rowIn 5 m (by omega) HJM.out (brk hs' m) rfl
            obtain ⟨pb, cb, eb, ob⟩ := HLS2.out.1.rowIn 3 m (by omega) HJM.out (brk hs' m) rfl
            have hbl : (brk hs' m).length ≤ i := by have := HLL.out m; omega
            obtain ⟨b, hb⟩ : ∃ b, b = (brk hs' m).length := ⟨_, rfl⟩
            rw [← hb] at ea oa eb ob hbl
            have hcells := HLS2.out.1.cell m HJM.out
            rw [← HL5.out, ea] at hcells
            have hcl : w2.cell? ⟨l5, 1, none⟩ = some (.slice pa b ca) := hcells.1
            have hcf : w2.frozen? ⟨l5, 1, none⟩ = false := hcells.2.2.1
            have hll5 : l5 < w2.heap.size := HLS2.out.1.lt l5 (.inr (by rw [HL5.out]; exact List.getElem_mem _))
            have hne5 : (Value.slice pa b ca).ownBlock ≠ some l5 := fun e => HLS2.out.1.fam.out (5, m) l5 (act_row (by omega) (by omega) HJM.out) (by rw [ea]; exact e) (.inr (.inr (by rw [HL5.out]; exact List.getElem_mem _)))
            have HEA := Lib.hid ea
            have HEB := Lib.hid eb
            have HOA := Lib.hid oa
            have HOB := Lib.hid ob
            have HBE := Lib.hid hb
            have HNE5 := Lib.hid hne5
            have hs7 : ((m : Int) + 1 == 0) = false := by simp; omega
            clear ea eb oa ob hb hcells hne5
            go_upto_region 49 with ((at_builtin; refine wpList_append_lies _ rfl _ _ 31 rfl 0 3 iI (.int .i64 0) 1 8 Tryf.underlying31 HI.out.1 HI.out.2.1 HI.out.2.2.1 HI.out.2.2.2 rfl (by decide) (.slice pa b ca) b (ints (brk hs' m)) rfl (HOA.out.alloc _) ⟨w2.heap.size, 0, none⟩ 1 1 [.int .i64 (i : Int)] rfl rfl (cell_one_new _ _ _) (by simp [Value.oneCell']) (by decide) (by unfold maxLen; omega) (by omega) (Nat.zero_le _) (w2.heap.size + 1) (by simp) ?_; intro ga da w3 hown3 hgrow3 hat3 hlt3; have hk3 := (hgrow3.block l5 (by simp; omega) (fun e => HNE5.out e.symm)).trans (Below.heap_alloc w2 _ l5 hll5); have c3 := (World.cell?_of_block (a := ⟨l5, 1, none⟩) hk3).trans hcl; have f3 := (World.frozen?_of_block (a := ⟨l5, 1, none⟩) hk3).trans hcf; have HO3 := Lib.hid hown3; have HA3 := Lib.hid hat3; have HT3 := Lib.hid (turned_app hgrow3); clear hown3 hgrow3 hat3 hlt3 hk3))
            have hnote := HLS2.out.1.noteB m HJM.out (i : Int) (.slice (some ⟨ga, 0, none⟩) (b + 1) da) (w5 := w3) (by rw [HEA.out]; exact HT3.out) (by rw [← HBE.out]; exact HO3.out) (by rw [HEA.out]; exact at_of HA3.out (by omega))
            rw [← HL5.out] at hnote
            obtain ⟨w4, hw4⟩ : ∃ w4, w4 = w3.setCell ⟨l5, 1, none⟩ (.slice (some ⟨ga, 0, none⟩) (b + 1) da) := ⟨_, rfl⟩
            rw [← hw4] at hnote ⊢
            have HN4 := Lib.hid hnote
            have ebz : upd v (5, m) (.slice (some ⟨ga, 0, none⟩) (b + 1) da) (3, m) = .slice pb b cb := by rw [upd_other _ _ (by simp)]; exact HEB.out
            have hgz : upd v (5, m) (.slice (some ⟨ga, 0, none⟩) (b + 1) da) (1, 0) = .slice (some ⟨g1, 0, none⟩) (m + 1) c1 := by rw [upd_other _ _ (by simp)]; exact HV.out.2.1
            have hm := HN.out
            have hrg := HN4.out.1.row1 (Turned.refl _ w4) hm hgz
            obtain ⟨hcg, hfg⟩ := row_cell hrg (j := m) (col_get _ _ _ _ (by omega))
            rw [ebz] at hcg
            obtain ⟨qb, qcb, qeb, qob⟩ := HN4.out.1.rowIn 3 m (by omega) HJM.out (brk hs' m) rfl
            rw [ebz] at qeb
            have hlg : g1 < w4.heap.size := World.block_lt_of_cell? w4 _ hcg
            have hneg : (Value.slice pb b cb).ownBlock ≠ some g1 := fun e => by
              have e1 := HN4.out.1.fam.sep (3, m) (1, 0) g1 (act_row (by omega) (by omega) HJM.out) (act_top (by decide)) (by rw [ebz]; exact e) (by rw [hgz]; rfl)
              simp at e1
            rw [← HBE.out] at qeb qob
            rw [← qeb] at qob
            have HOB4 := Lib.hid qob
            have HEBZ := Lib.hid ebz
            have H1 := Lib.hid hgz
            have HNEG := Lib.hid hneg
            have s5 : (0 : Int) ≤ (m : Int) := by omega
            have s6 : (m : Int) < (m : Int) + 1 := by omega
            clear hnote hrg hm qeb qob ebz hgz hneg c3 f3 hw4 hcl hcf HOA HOB HO3 HA3 HT3
            go_upto_region 51 with ((at_builtin; refine wpList_append_lies _ rfl _ _ 31 rfl 0 3 iI (.int .i64 0) 1 8 Tryf.underlying31 HI.out.1 HI.out.2.1 HI.out.2.2.1 HI.out.2.2.2 rfl (by decide) (.slice pb b cb) b (ints (brk hs' m)) rfl (HOB4.out.alloc _) ⟨w4.heap.size, 0, none⟩ 1 1 [.int .i64 (i : Int)] rfl rfl (cell_one_new _ _ _) (by simp [Value.oneCell']) (by decide) (by unfold maxLen; omega) (by omega) (Nat.zero_le _) (w4.heap.size + 1) (by simp) ?_; intro gb db w5 hown5 hgrow5 hat5 hlt5; have hk5 := (hgrow5.block g1 (by simp; omega) (fun e => HNEG.out e.symm)).trans (Below.heap_alloc w4 _ g1 hlg); have c5 := (World.cell?_of_block (a := ⟨g1, m, none⟩) hk5).trans hcg; have f5 := (World.frozen?_of_block (a := ⟨g1, m, none⟩) hk5).trans hfg; have HO5 := Lib.hid hown5; have HA5 := Lib.hid hat5; have HT5 := Lib.hid (turned_app hgrow5); clear hown5 hgrow5 hat5 hlt5 hk5))
            have hlaw := HN4.out.1.lawB m HJM.out (i : Int) g1 (m + 1) c1 H1.out (.slice (some ⟨gb, 0, none⟩) (b + 1) db) (w5 := w5) (by rw [HEBZ.out]; exact HT5.out) (by rw [← HBE.out]; exact HO5.out) (by rw [HEBZ.out]; exact at_of HA5.out (by omega))
            obtain ⟨w6, hw6⟩ : ∃ w6, w6 = w5.setCell ⟨g1, m, none⟩ (.slice (some ⟨gb, 0, none⟩) (b + 1) db) := ⟨_, rfl⟩
            rw [← hw6] at hlaw ⊢
            have HR6 : Hid (RL base w1 w6 C (i + 1) (m + 1) g0 g1 g2 c0 c1 c2) := Lib.hid (by
              obtain ⟨z0, z1, z2⟩ := HV.out
              have hjl : m < hs'.length := by rw [HLS.out.len]; exact HJM.out
              exact ⟨_, _, _, _, hlaw.1, HN.out, by omega, fun k => by
                have h2 := HLL.out k
                have h3 := HLL.out m
                by_cases hk : k = m
                · subst hk
                  rw [brk_addB _ _ _ hjl, cnt_addB _ _ _ _ hjl]; simp; omega
                · rw [brk_addB_ne _ _ _ _ hk, cnt_addB _ _ _ _ hjl]; omega, by rw [upd_other _ _ (by simp), upd_other _ _ (by simp)]; exact z0, by rw [upd_other _ _ (by simp), upd_other _ _ (by simp)]; exact z1, by rw [upd_other _ _ (by simp), upd_other _ _ (by simp)]; exact z2, HLS2.out.2.trans (HN4.out.2.trans hlaw.2)⟩)
            clear hlaw hw6 HO5 HA5 HT5 c5 f5 hcg hfg HOB4 HEBZ H1 HNEG HN4
            obtain ⟨l6, hcu6, hc6⟩ := HR6.out.cur1 (by omega)
            have HCU6 := Lib.hid hcu6
            clear hcu6
            have heq6 := ptr_neq2 w6 ⟨l6, 0, none⟩
            go_wp2_with (fail)
            refine HCU6.out.mono ?_
            rintro e w' ⟨rfl, k6, rfl⟩
            obtain ⟨w7, hw7⟩ : ∃ w7, w7 = w6.drewN k6 := ⟨_, rfl⟩
            have HR7 : Hid (RL base w1 w7 C (i + 1) (m + 1) g0 g1 g2 c0 c1 c2) := Lib.hid (by rw [hw7]; exact HR6.out.drewN k6)
            have hc7 : w7.cell? ⟨g0, m, none⟩ = some (.pointer (some ⟨l6, 0, none⟩)) := by rw [hw7]; exact hc6
            have HX7 : Hid (Calls Tryf.prog 13 #[.pointer (some ⟨C, 0, none⟩)] w7 fun e w' => e = .returned (.int .i64 (m : Int)) ∧ w7 = w') := Lib.hid (by have h := HR7.out.idx; rwa [show ((m + 1 : Nat) : Int) - 1 = (m : Int) by omega] at h)
            have HM7 : Hid (Calls Tryf.prog 14 #[.pointer (some ⟨C, 0, none⟩)] w7 fun e w' => e = .returned (.int .i64 ((m : Int) + 1)) ∧ w7 = w') := Lib.hid HR7.out.num
            have heq7 := ptr_neq2 w7 ⟨l6, 0, none⟩
            have hs5 : (m : Int) < (m : Int) + 1 := by omega
            have hs6 : (0 : Int) ≤ (m : Int) := by omega
            have hs7 : ((m : Int) + 1 == 0) = false := by simp; omega
            rw [← hw7]
            clear hw7 HCU6 HR6 heq6 hc6
            go_wp2_with (fail)
            refine HX7.out.mono ?_
            rintro e w' ⟨rfl, rfl⟩
            go_wp2_with (fail)
            refine HM7.out.mono ?_
            rintro e w' ⟨rfl, rfl⟩
            clear HX7 HM7
            go_wp2_with (fail)
            go_loopw [15] (fun jv wr => ∃ tt : Nat, tt ≤ (m + 1) ∧ jv = .int .i64 tt ∧ Hid (RL base w1 wr C (i + 1) (m + 1) g0 g1 g2 c0 c1 c2)) (fun jv _ => (m + 1) - (intOf jv).toNat)
            case atStart => exact ⟨0, Nat.zero_le _, rfl, HR7⟩
            case round =>
              obtain ⟨tt, htn, rfl, HRj⟩ := hrel
              obtain ⟨wp, hwp⟩ : ∃ wp : World, wp = wr := ⟨_, rfl⟩
              subst hwp
              by_cases hlt9 : tt < (m + 1)
              · obtain ⟨l8, va, vb, vc, vd, hA⟩ := HRj.out.at (by omega) tt hlt9
                have q1 := hA.cp
                have q2 := hA.ca
                have q3 := hA.cb
                have q4 := hA.cc
                have q5 := hA.cd
                have HE1 := Lib.hid hA.e1
                have HE2 := Lib.hid hA.e2
                have s1 : (0 : Int) ≤ (tt : Int) := by omega
                have s2 : (tt : Int) < (m : Int) + 1 := by omega
                clear hA
                go_wp2_with (fail)
                go_quiet ((go_at_call 15; first | (with_reducible exact Calls.quiet_of (HE1.out _)) | (with_reducible exact Calls.quiet_of (HE2.out _))))
                clear q1 q2 q3 q4 q5 HE1 HE2
                go_wp2_with (fail)
                go_roundw
                case rel => exact ⟨tt + 1, hlt9, by go_num, Lib.hid (HRj.out.drewN _)⟩
                case measure => simp [intOf]; omega
              · obtain rfl : tt = (m + 1) := by omega
                go_wp2_with (fail)
                go_roundw
                case rel => exact ⟨i + 1, (m + 1), g0, g1, g2, c0, c1, c2, hlt, by omega, by go_num, rfl, rfl, rfl, HRj⟩
                case measure => simp [intOf]; omega
      · as_aux_lemma =>
          by_cases hn0 : n = 0
          · subst hn0
            have HCU := Lib.hid HR.out.cur0
            go_wp2_with (fail)
            refine HCU.out.mono ?_
            rintro e w' ⟨rfl, k5, rfl⟩
            obtain ⟨w6, hw6⟩ : ∃ w6, w6 = wo.drewN k5 := ⟨_, rfl⟩
            have HR6 : Hid (RL base w1 w6 C (i + 1) 0 g0 g1 g2 c0 c1 c2) := Lib.hid (by rw [hw6]; exact HR.out.step.drewN k5)
            go_upto_region 51 with (fail)
            rw [← hw6]
            clear hw6 HCU
            have HCU6 := Lib.hid HR6.out.cur0
            go_wp2_with (fail)
            refine HCU6.out.mono ?_
            rintro e w' ⟨rfl, k6, rfl⟩
            obtain ⟨w7, hw7⟩ : ∃ w7, w7 = w6.drewN k6 := ⟨_, rfl⟩
            have HR7 : Hid (RL base w1 w7 C (i + 1) 0 g0 g1 g2 c0 c1 c2) := Lib.hid (by rw [hw7]; exact HR6.out.drewN k6)
            have HX7 : Hid (Calls Tryf.prog 13 #[.pointer (some ⟨C, 0, none⟩)] w7 fun e w' => e = .returned (.int .i64 (-1)) ∧ w7 = w') := Lib.hid HR7.out.idx
            have HM7 : Hid (Calls Tryf.prog 14 #[.pointer (some ⟨C, 0, none⟩)] w7 fun e w' => e = .returned (.int .i64 0) ∧ w7 = w') := Lib.hid HR7.out.num
            rw [← hw7]
            clear hw7 HCU6 HR6
            go_wp2_with (fail)
            refine HX7.out.mono ?_
            rintro e w' ⟨rfl, rfl⟩
            go_wp2_with (fail)
            refine HM7.out.mono ?_
            rintro e w' ⟨rfl, rfl⟩
            clear HX7 HM7
            go_wp2_with (fail)
            go_loopw [15] (fun jv wr => ∃ tt : Nat, tt ≤ 0 ∧ jv = .int .i64 tt ∧ Hid (RL base w1 wr C (i + 1) 0 g0 g1 g2 c0 c1 c2)) (fun jv _ => 0 - (intOf jv).toNat)
            case atStart => exact ⟨0, Nat.zero_le _, rfl, HR7⟩
            case round =>
              obtain ⟨tt, htn, rfl, HRj⟩ := hrel
              obtain ⟨wp, hwp⟩ : ∃ wp : World, wp = wr := ⟨_, rfl⟩
              subst hwp
              by_cases hlt9 : tt < 0
              · obtain ⟨l8, va, vb, vc, vd, hA⟩ := HRj.out.at (by omega) tt hlt9
                have q1 := hA.cp
                have q2 := hA.ca
                have q3 := hA.cb
                have q4 := hA.cc
                have q5 := hA.cd
                have HE1 := Lib.hid hA.e1
                have HE2 := Lib.hid hA.e2
                have s1 : (0 : Int) ≤ (tt : Int) := by omega
                have s2 : (tt : Int) < 0 := by omega
                clear hA
                go_wp2_with (fail)
                go_quiet ((go_at_call 15; first | (with_reducible exact Calls.quiet_of (HE1.out _)) | (with_reducible exact Calls.quiet_of (HE2.out _))))
                clear q1 q2 q3 q4 q5 HE1 HE2
                go_wp2_with (fail)
                go_roundw
                case rel => exact ⟨tt + 1, hlt9, by go_num, Lib.hid (HRj.out.drewN _)⟩
                case measure => simp [intOf]; omega
              · obtain rfl : tt = 0 := by omega
                go_wp2_with (fail)
                go_roundw
                case rel => exact ⟨i + 1, 0, g0, g1, g2, c0, c1, c2, hlt, by omega, by go_num, rfl, rfl, rfl, HRj⟩
                case measure => simp [intOf]; omega
          · obtain ⟨m, rfl⟩ : ∃ m, n = m + 1 := ⟨n - 1, by omega⟩
            have hm := HN.out
            have hjm : m < ls.length := by omega
            have hcu := HLS.out.cur hm (by omega)
            have HJM := Lib.hid hjm
            obtain ⟨l5, hl5⟩ : ∃ l5, l5 = ls[m]'HJM.out := ⟨_, rfl⟩
            rw [← hl5] at hcu
            have HCU := Lib.hid hcu
            have HL5 := Lib.hid hl5
            clear hcu hl5 hjm hm hn0
            go_wp2_with (fail)
            refine HCU.out.mono ?_
            rintro e w' ⟨rfl, k5, rfl⟩
            obtain ⟨w2, hw2⟩ : ∃ w2, w2 = wo.drewN k5 := ⟨_, rfl⟩
            have HLS2 : Hid (LS w2 base C vC ls v hs' hs' ∧ Below base w1 w2) := Lib.hid (by rw [hw2]; exact ⟨HLS.out.drewN, below_drewN HBEL.out⟩)
            rw [← hw2]
            clear hw2 HCU
            obtain ⟨pa, ca, ea, oa⟩ := HLS2.out.1.rowIn 6 m (by omega) HJM.out (cnt hs' m) rfl
            obtain ⟨pb, cb, eb, ob⟩ := HLS2.out.1.rowIn 4 m (by omega) HJM.out (cnt hs' m) rfl
            have hbl : (cnt hs' m).length ≤ i := by have := HLL.out m; omega
            obtain ⟨b, hb⟩ : ∃ b, b = (cnt hs' m).length := ⟨_, rfl⟩
            rw [← hb] at ea oa eb ob hbl
            have hcells := HLS2.out.1.cell m HJM.out
            rw [← HL5.out, ea] at hcells
            have hcl : w2.cell? ⟨l5, 0, none⟩ = some (.slice pa b ca) := hcells.2.1
            have hcf : w2.frozen? ⟨l5, 0, none⟩ = false := hcells.2.2.2
            have hll5 : l5 < w2.heap.size := HLS2.out.1.lt l5 (.inr (by rw [HL5.out]; exact List.getElem_mem _))
            have hne5 : (Value.slice pa b ca).ownBlock ≠ some l5 := fun e => HLS2.out.1.fam.out (6, m) l5 (act_row (by omega) (by omega) HJM.out) (by rw [ea]; exact e) (.inr (.inr (by rw [HL5.out]; exact List.getElem_mem _)))
            have HEA := Lib.hid ea
            have HEB := Lib.hid eb
            have HOA := Lib.hid oa
            have HOB := Lib.hid ob
            have HBE := Lib.hid hb
            have HNE5 := Lib.hid hne5
            have hs7 : ((m : Int) + 1 == 0) = false := by simp; omega
            clear ea eb oa ob hb hcells hne5
            go_upto_region 21 with ((at_builtin; refine wpList_append_lies _ rfl _ _ 31 rfl 0 3 iI (.int .i64 0) 1 8 Tryf.underlying31 HI.out.1 HI.out.2.1 HI.out.2.2.1 HI.out.2.2.2 rfl (by decide) (.slice pa b ca) b (ints (cnt hs' m)) rfl (HOA.out.alloc _) ⟨w2.heap.size, 0, none⟩ 1 1 [.int .i64 (i : Int)] rfl rfl (cell_one_new _ _ _) (by simp [Value.oneCell']) (by decide) (by unfold maxLen; omega) (by omega) (Nat.zero_le _) (w2.heap.size + 1) (by simp) ?_; intro ga da w3 hown3 hgrow3 hat3 hlt3; have hk3 := (hgrow3.block l5 (by simp; omega) (fun e => HNE5.out e.symm)).trans (Below.heap_alloc w2 _ l5 hll5); have c3 := (World.cell?_of_block (a := ⟨l5, 0, none⟩) hk3).trans hcl; have f3 := (World.frozen?_of_block (a := ⟨l5, 0, none⟩) hk3).trans hcf; have HO3 := Lib.hid hown3; have HA3 := Lib.hid hat3; have HT3 := Lib.hid (turned_app hgrow3); clear hown3 hgrow3 hat3 hlt3 hk3))
            have hnote := HLS2.out.1.noteC m HJM.out (i : Int) (.slice (some ⟨ga, 0, none⟩) (b + 1) da) (w5 := w3) (by rw [HEA.out]; exact HT3.out) (by rw [← HBE.out]; exact HO3.out) (by rw [HEA.out]; exact at_of HA3.out (by omega))
            rw [← HL5.out] at hnote
            obtain ⟨w4, hw4⟩ : ∃ w4, w4 = w3.setCell ⟨l5, 0, none⟩ (.slice (some ⟨ga, 0, none⟩) (b + 1) da) := ⟨_, rfl⟩
            rw [← hw4] at hnote ⊢
            have HN4 := Lib.hid hnote
            have ebz : upd v (6, m) (.slice (some ⟨ga, 0, none⟩) (b + 1) da) (4, m) = .slice pb b cb := by rw [upd_other _ _ (by simp)]; exact HEB.out
            have hgz : upd v (6, m) (.slice (some ⟨ga, 0, none⟩) (b + 1) da) (2, 0) = .slice (some ⟨g2, 0, none⟩) (m + 1) c2 := by rw [upd_other _ _ (by simp)]; exact HV.out.2.2
            have hm := HN.out
            have hrg := HN4.out.1.row2 (Turned.refl _ w4) hm hgz
            obtain ⟨hcg, hfg⟩ := row_cell hrg (j := m) (col_get _ _ _ _ (by omega))
            rw [ebz] at hcg
            obtain ⟨qb, qcb, qeb, qob⟩ := HN4.out.1.rowIn 4 m (by omega) HJM.out (cnt hs' m) rfl
            rw [ebz] at qeb
            have hlg : g2 < w4.heap.size := World.block_lt_of_cell? w4 _ hcg
            have hneg : (Value.slice pb b cb).ownBlock ≠ some g2 := fun e => by
              have e1 := HN4.out.1.fam.sep (4, m) (2, 0) g2 (act_row (by omega) (by omega) HJM.out) (act_top (by decide)) (by rw [ebz]; exact e) (by rw [hgz]; rfl)
              simp at e1
            rw [← HBE.out] at qeb qob
            rw [← qeb] at qob
            have HOB4 := Lib.hid qob
            have HEBZ := Lib.hid ebz
            have H2 := Lib.hid hgz
            have HNEG := Lib.hid hneg
            have s5 : (0 : Int) ≤ (m : Int) := by omega
            have s6 : (m : Int) < (m : Int) + 1 := by omega
            clear hnote hrg hm qeb qob ebz hgz hneg c3 f3 hw4 hcl hcf HOA HOB HO3 HA3 HT3
            go_upto_region 51 with ((at_builtin; refine wpList_append_lies _ rfl _ _ 31 rfl 0 3 iI (.int .i64 0) 1 8 Tryf.underlying31 HI.out.1 HI.out.2.1 HI.out.2.2.1 HI.out.2.2.2 rfl (by decide) (.slice pb b cb) b (ints (cnt hs' m)) rfl (HOB4.out.alloc _) ⟨w4.heap.size, 0, none⟩ 1 1 [.int .i64 (i : Int)] rfl rfl (cell_one_new _ _ _) (by simp [Value.oneCell']) (by decide) (by unfold maxLen; omega) (by omega) (Nat.zero_le _) (w4.heap.size + 1) (by simp) ?_; intro gb db w5 hown5 hgrow5 hat5 hlt5; have hk5 := (hgrow5.block g2 (by simp; omega) (fun e => HNEG.out e.symm)).trans (Below.heap_alloc w4 _ g2 hlg); have c5 := (World.cell?_of_block (a := ⟨g2, m, none⟩) hk5).trans hcg; have f5 := (World.frozen?_of_block (a := ⟨g2, m, none⟩) hk5).trans hfg; have HO5 := Lib.hid hown5; have HA5 := Lib.hid hat5; have HT5 := Lib.hid (turned_app hgrow5); clear hown5 hgrow5 hat5 hlt5 hk5))
            have hlaw := HN4.out.1.lawC m HJM.out (i : Int) g2 (m + 1) c2 H2.out (.slice (some ⟨gb, 0, none⟩) (b + 1) db) (w5 := w5) (by rw [HEBZ.out]; exact HT5.out) (by rw [← HBE.out]; exact HO5.out) (by rw [HEBZ.out]; exact at_of HA5.out (by omega))
            obtain ⟨w6, hw6⟩ : ∃ w6, w6 = w5.setCell ⟨g2, m, none⟩ (.slice (some ⟨gb, 0, none⟩) (b + 1) db) := ⟨_, rfl⟩
            rw [← hw6] at hlaw ⊢
            have HR6 : Hid (RL base w1 w6 C (i + 1) (m + 1) g0 g1 g2 c0 c1 c2) := Lib.hid (by
              obtain ⟨z0, z1, z2⟩ := HV.out
              have hjl : m < hs'.length := by rw [HLS.out.len]; exact HJM.out
              exact ⟨_, _, _, _, hlaw.1, HN.out, by omega, fun k => by
                have h2 := HLL.out k
                have h3 := HLL.out m
                by_cases hk : k = m
                · subst hk
                  rw [cnt_addC _ _ _ hjl, brk_addC _ _ _ _ hjl]; simp; omega
                · rw [cnt_addC_ne _ _ _ _ hk, brk_addC _ _ _ _ hjl]; omega, by rw [upd_other _ _ (by simp), upd_other _ _ (by simp)]; exact z0, by rw [upd_other _ _ (by simp), upd_other _ _ (by simp)]; exact z1, by rw [upd_other _ _ (by simp), upd_other _ _ (by simp)]; exact z2, HLS2.out.2.trans (HN4.out.2.trans hlaw.2)⟩)
            clear hlaw hw6 HO5 HA5 HT5 c5 f5 hcg hfg HOB4 HEBZ H2 HNEG HN4
            obtain ⟨l6, hcu6, hc6⟩ := HR6.out.cur1 (by omega)
            have HCU6 := Lib.hid hcu6
            clear hcu6
            have heq6 := ptr_neq2 w6 ⟨l6, 0, none⟩
            go_wp2_with (fail)
            refine HCU6.out.mono ?_
            rintro e w' ⟨rfl, k6, rfl⟩
            obtain ⟨w7, hw7⟩ : ∃ w7, w7 = w6.drewN k6 := ⟨_, rfl⟩
            have HR7 : Hid (RL base w1 w7 C (i + 1) (m + 1) g0 g1 g2 c0 c1 c2) := Lib.hid (by rw [hw7]; exact HR6.out.drewN k6)
            have hc7 : w7.cell? ⟨g0, m, none⟩ = some (.pointer (some ⟨l6, 0, none⟩)) := by rw [hw7]; exact hc6
            have HX7 : Hid (Calls Tryf.prog 13 #[.pointer (some ⟨C, 0, none⟩)] w7 fun e w' => e = .returned (.int .i64 (m : Int)) ∧ w7 = w') := Lib.hid (by have h := HR7.out.idx; rwa [show ((m + 1 : Nat) : Int) - 1 = (m : Int) by omega] at h)
            have HM7 : Hid (Calls Tryf.prog 14 #[.pointer (some ⟨C, 0, none⟩)] w7 fun e w' => e = .returned (.int .i64 ((m : Int) + 1)) ∧ w7 = w') := Lib.hid HR7.out.num
            have heq7 := ptr_neq2 w7 ⟨l6, 0, none⟩
            have hs5 : (m : Int) < (m : Int) + 1 := by omega
            have hs6 : (0 : Int) ≤ (m : Int) := by omega
            have hs7 : ((m : Int) + 1 == 0) = false := by simp; omega
            rw [← hw7]
            clear hw7 HCU6 HR6 heq6 hc6
            go_wp2_with (fail)
            refine HX7.out.mono ?_
            rintro e w' ⟨rfl, rfl⟩
            go_wp2_with (fail)
            refine HM7.out.mono ?_
            rintro e w' ⟨rfl, rfl⟩
            clear HX7 HM7
            go_wp2_with (fail)
            go_loopw [15] (fun jv wr => ∃ tt : Nat, tt ≤ (m + 1) ∧ jv = .int .i64 tt ∧ Hid (RL base w1 wr C (i + 1) (m + 1) g0 g1 g2 c0 c1 c2)) (fun jv _ => (m + 1) - (intOf jv).toNat)
            case atStart => exact ⟨0, Nat.zero_le _, rfl, HR7⟩
            case round =>
              obtain ⟨tt, htn, rfl, HRj⟩ := hrel
              obtain ⟨wp, hwp⟩ : ∃ wp : World, wp = wr := ⟨_, rfl⟩
              subst hwp
              by_cases hlt9 : tt < (m + 1)
              · obtain ⟨l8, va, vb, vc, vd, hA⟩ := HRj.out.at (by omega) tt hlt9
                have q1 := hA.cp
                have q2 := hA.ca
                have q3 := hA.cb
                have q4 := hA.cc
                have q5 := hA.cd
                have HE1 := Lib.hid hA.e1
                have HE2 := Lib.hid hA.e2
                have s1 : (0 : Int) ≤ (tt : Int) := by omega
                have s2 : (tt : Int) < (m : Int) + 1 := by omega
                clear hA
                go_wp2_with (fail)
                go_quiet ((go_at_call 15; first | (with_reducible exact Calls.quiet_of (HE1.out _)) | (with_reducible exact Calls.quiet_of (HE2.out _))))
                clear q1 q2 q3 q4 q5 HE1 HE2
                go_wp2_with (fail)
                go_roundw
                case rel => exact ⟨tt + 1, hlt9, by go_num, Lib.hid (HRj.out.drewN _)⟩
                case measure => simp [intOf]; omega
              · obtain rfl : tt = (m + 1) := by omega
                go_wp2_with (fail)
                go_roundw
                case rel => exact ⟨i + 1, (m + 1), g0, g1, g2, c0, c1, c2, hlt, by omega, by go_num, rfl, rfl, rfl, HRj⟩
                case measure => simp [intOf]; omega
    · obtain rfl : i = os.length := by omega
      go_wp2
      go_ret
      obtain ⟨_, _, _, _, _, _, _, _, _, _, _, hb⟩ := HR.out
      exact ⟨rfl, HB.out _ hb⟩
end Go.Proofs.YtiohjlnebeifaaaFmt.Lp
