/- The compiler's stack of scopes: enterScope, leaveScope, a new compiler. -/
import Derived.Test.YtiohjlnebeifaaaFmtScope
namespace Go.Proofs.YtiohjlnebeifaaaFmt.Sc
open Go.ChangeShapes Go.WideShapes Go.ChangeAt Go.RowKit Go.Nest

theorem infoS : (Tryf.prog.info? 51).map (fun i => (i.zero, i.size, i.bytes)) = some (some (.agg #[.slice none 0 0, .map none, .map none]), 3, 40) := by kernel_rfl

theorem last_cell (W : World) (arr : Array Value) (t : TypeId) (n j : Nat) (hn : W.heap.size = n) : (W.alloc (.cells arr t)).cell? ⟨n, j, none⟩ = arr[j]? := by
  subst hn
  unfold World.cell?
  simp only [heap_alloc_new W]
  simp
theorem last_frz (W : World) (arr : Array Value) (t : TypeId) (n j : Nat) (hn : W.heap.size = n) : (W.alloc (.cells arr t)).frozen? ⟨n, j, none⟩ = false := by
  subst hn
  unfold World.frozen?
  simp only [heap_alloc_new W]
  simp
theorem news3 (w : World) (x y z : Value) (n : Nat) (e : TypeId) (hn : w.heap.size = n) : ∀ j u, [x, y, z][j]? = some u → (w.alloc (.cells #[x, y, z] e)).cell? ((⟨n, 0, none⟩ : Addr).add j) = some u := by
  intro j u hj
  subst hn
  exact World.news_of_block (t := e) (fr := (0, 0)) (heap_alloc_new w (.cells #[x, y, z] e)) j u hj
theorem forkT (p : Option Addr) (w : World) : Calls Tryf.prog 33 #[.pointer p, .bool false] w fun e w' => ∃ t, e = .returned (.pointer (some ⟨t, 0, none⟩)) ∧ w.heap.size ≤ t ∧ t < w'.heap.size ∧ w'.cell? ⟨t, 0, none⟩ = some (.pointer p) ∧ w'.cell? ⟨t, 1, none⟩ = some (.bool false) ∧ Below w.heap.size w w' := by
  have hmm := @run_makeMap Tryf.prog
  go_enter Tryf.func33, Tryf.ntmps33
  go_wp2
  go_ret
  refine ⟨w.heap.size + 1, rfl, by omega, by simp, ?_, ?_, ((Below.refl _ _).alloc (Nat.le_refl _) _).alloc (by simp) _⟩
  · exact (last_cell _ _ _ _ _ (by simp)).trans rfl
  · exact (last_cell _ _ _ _ _ (by simp)).trans rfl
set_option maxRecDepth 100000 in
set_option maxHeartbeats 1000000 in
theorem entS (F : Nat → Prop) (C : Nat) (ts : List Nat) (init : List It) (s : It) (w : World) (h : CompS w F C ts init s) (hn : init.length ≤ 1048576) :
    Calls Tryf.prog 30 #[.pointer (some ⟨C, 0, none⟩)] w fun e w' => e = .returned (.tuple #[]) ∧ ∃ F' t ex, CompS w' F' C (t :: ts) (init ++ [s]) ⟨.slice none 0 0, ex, []⟩ ∧ Turned (fun k => F k ∨ k = C) w w' ∧ Ch F F' w ∧ w.heap.size ≤ t := by
  obtain ⟨g, cap, h7, hN⟩ := h.sc
  have h8 := h.idx
  obtain ⟨sv, h6, hch⟩ := h.sym
  obtain ⟨t0, tr, hts⟩ : ∃ t0 tr, ts = t0 :: tr := by
    cases ts with
    | nil => have := h.len; simp at this
    | cons a r => exact ⟨a, r, rfl⟩
  have hch' := hch
  rw [hts] at hch'
  obtain ⟨rfl, _⟩ := hch'
  have h14 := h.trc
  have hmm := @run_makeMap Tryf.prog
  have f6 := h.frz 6
  have f7 := h.frz 7
  have f8 := h.frz 8
  have hrow : w.ownsRow 0 51 3 (.slice (some ⟨g, 0, none⟩) (init.length + 1) cap) (init.length + 1) (flat (init ++ [s])) := by simpa using hN.row
  have HROW := Lib.hid hrow
  have hCg : C ≠ g := fun e => h.cF (e ▸ hN.foot g rfl)
  have HC := Lib.hid h
  have H6 := Lib.hid h6
  have H7 := Lib.hid h7
  have HN := Lib.hid hN
  have HCH := Lib.hid hch
  have HTS := Lib.hid hts
  have hCw := h.cw
  have hgw := row_lt hN.row (k := g) rfl
  obtain ⟨i3, hi, hz0, hz1, hz2⟩ := info_parts infoS
  have HI := Lib.hid hi
  have HI0 := Lib.hid hz0
  have HI1 := Lib.hid hz1
  have HI2 := Lib.hid hz2
  clear h hN hi hz0 hz1 hz2 hrow hch hts
  have hn0 : (0 : Int) ≤ (init.length : Int) := by omega
  have HK : Hid (∀ k, k < w.heap.size → ∀ o1 o2 o3 : Obj, (((w.alloc o1).alloc o2).alloc o3).heap[k]? = w.heap[k]?) := Lib.hid (fun k hk o1 o2 o3 => by
    rw [Below.heap_alloc _ o3 k (by simp; omega), Below.heap_alloc _ o2 k (by simp; omega), Below.heap_alloc _ o1 k hk])
  go_enter Tryf.func30, Tryf.ntmps30
  go_wp2
  obtain ⟨w3, hw3⟩ : ∃ w3, w3 = (((w.alloc (Obj.map #[] 0)).alloc (Obj.map #[] 0)).alloc (Obj.cells #[Value.slice none 0 0, Value.map (some w.heap.size), Value.map (some (w.heap.size + 1))] 51)) := ⟨_, rfl⟩
  have hs3 : w3.heap.size = w.heap.size + 3 := by rw [hw3]; simp
  have hkk : ∀ k, k < w.heap.size → w3.heap[k]? = w.heap[k]? := fun k hk => by rw [hw3]; exact HK.out k hk _ _ _
  have HKK := Lib.hid hkk
  have c6 : w3.cell? ⟨C, 6, none⟩ = some (.pointer (some ⟨t0, 0, none⟩)) := (World.cell?_of_block (a := ⟨C, 6, none⟩) (hkk C hCw)).trans h6
  have c7 : w3.cell? ⟨C, 7, none⟩ = some (.slice (some ⟨g, 0, none⟩) (init.length + 1) cap) := (World.cell?_of_block (a := ⟨C, 7, none⟩) (hkk C hCw)).trans h7
  have c8 : w3.cell? ⟨C, 8, none⟩ = some (.int .i64 init.length) := (World.cell?_of_block (a := ⟨C, 8, none⟩) (hkk C hCw)).trans h8
  have c14 : w3.cell? ⟨C, 14, none⟩ = some .nilIface := (World.cell?_of_block (a := ⟨C, 14, none⟩) (hkk C hCw)).trans h14
  have k6 : w3.frozen? ⟨C, 6, none⟩ = false := (World.frozen?_of_block (a := ⟨C, 6, none⟩) (hkk C hCw)).trans f6
  have k7 : w3.frozen? ⟨C, 7, none⟩ = false := (World.frozen?_of_block (a := ⟨C, 7, none⟩) (hkk C hCw)).trans f7
  have k8 : w3.frozen? ⟨C, 8, none⟩ = false := (World.frozen?_of_block (a := ⟨C, 8, none⟩) (hkk C hCw)).trans f8
  have n0 : w3.cell? ⟨w.heap.size + 1 + 1, 0, none⟩ = some (.slice none 0 0) := by rw [hw3]; exact (last_cell _ _ _ _ _ (by simp)).trans rfl
  have n1 : w3.cell? ⟨w.heap.size + 1 + 1, 1, none⟩ = some (.map (some w.heap.size)) := by rw [hw3]; exact (last_cell _ _ _ _ _ (by simp)).trans rfl
  have n2 : w3.cell? ⟨w.heap.size + 1 + 1, 2, none⟩ = some (.map (some (w.heap.size + 1))) := by rw [hw3]; exact (last_cell _ _ _ _ _ (by simp)).trans rfl
  have hg3 : w.grownBy w3 (some g) := by
    refine ⟨by rw [hw3]; rfl, by rw [hw3]; rfl, by rw [hw3]; rfl, by omega, fun k hk _ => hkk k hk⟩
  have HG3 := Lib.hid hg3
  have hrow3 : w3.ownsRow 0 51 3 (.slice (some ⟨g, 0, none⟩) (init.length + 1) cap) (init.length + 1) (flat (init ++ [s])) := row_keep HROW.out (fun k e => hkk k (row_lt HROW.out e))
  have HR3 := Lib.hid hrow3
  clear hrow3 hg3
  rw [← hw3]
  clear hw3 hkk h6 h7 h8 h14 f6 f7 f8 HK
  have hC3 : C < w.heap.size + 3 := by omega
  have HFAR : Hid (∀ (o : Obj) (w5 : World), ((w3.alloc o).drew).grownBy w5 (some g) → ∀ b, b < w.heap.size + 3 → b ≠ g → w5.heap[b]? = w3.heap[b]?) := Lib.hid (fun o w5 h b hb hne => by
    rw [h.block b (by simp; omega) (fun e => hne (by simpa using e))]
    exact Below.heap_alloc w3 o b (by omega))
  have N0 := Lib.hid n0
  have N1 := Lib.hid n1
  have N2 := Lib.hid n2
  have C7 := Lib.hid c7
  have K7 := Lib.hid k7
  have hTg : w.heap.size + 1 + 1 ≠ g := by omega
  have hTC : ¬ C = w.heap.size + 1 + 1 := by omega
  go_region_law
    ((refine step_append_lies _ (by rfl) _ _ 52 (by rfl) 0 51 i3 _ 3 40 Tryf.underlying52 HI.out HI0.out HI1.out HI2.out rfl (by decide) (.slice (some ⟨g, 0, none⟩) (init.length + 1) cap) (init.length + 1) (flat (init ++ [s])) (by rfl) (by exact HR3.out.alloc _) ⟨w.heap.size + 3, 0, none⟩ 1 1 [.slice none 0 0, .map (some w.heap.size), .map (some (w.heap.size + 1))] (by rfl) (by rfl) (by exact news3 _ _ _ _ _ _ hs3) (by simp [Value.oneCell']) (by decide) (by unfold maxLen; omega) (by omega) (Nat.zero_le _) (w.heap.size + 4) (by simp; omega) ?_; intro g5 cap5 w5 hown5 hgrow5 hat5 hlt5; have hx5 := HFAR.out _ _ hgrow5; have q7 := (World.cell?_of_block (a := ⟨C, 7, none⟩) (hx5 C hC3 hCg)).trans C7.out; have p7 := (World.frozen?_of_block (a := ⟨C, 7, none⟩) (hx5 C hC3 hCg)).trans K7.out; have q70 := (World.cell?_of_block (a := ⟨w.heap.size + 1 + 1, 0, none⟩) (hx5 (w.heap.size + 1 + 1) (by omega) hTg)).trans N0.out; have q71 := (World.cell?_of_block (a := ⟨w.heap.size + 1 + 1, 1, none⟩) (hx5 (w.heap.size + 1 + 1) (by omega) hTg)).trans N1.out; have q72 := (World.cell?_of_block (a := ⟨w.heap.size + 1 + 1, 2, none⟩) (hx5 (w.heap.size + 1 + 1) (by omega) hTg)).trans N2.out; have HX5 := Lib.hid hx5; clear hx5))
  all_goals
    have hC5 := HX5.out C hC3 hCg
    have e6 := (World.cell?_of_block (a := ⟨C, 6, none⟩) hC5).trans c6
    have e8 := (World.cell?_of_block (a := ⟨C, 8, none⟩) hC5).trans c8
    have e14 := (World.cell?_of_block (a := ⟨C, 14, none⟩) hC5).trans c14
    have j6 := (World.frozen?_of_block (a := ⟨C, 6, none⟩) hC5).trans k6
    have j8 := (World.frozen?_of_block (a := ⟨C, 8, none⟩) hC5).trans k8
    have HGR := Lib.hid hgrow5
    have HOW := Lib.hid hown5
    have HAT := Lib.hid hat5
    have hC5w : C < w5.heap.size := by have := hgrow5.size; simp at this; omega
    clear q70 q71 q72 n0 n1 n2 hC5 c6 c7 c8 c14 k6 k7 k8 hgrow5 hown5 hat5 HFAR hlt5
    go_wp2_with (fail)
    have m6 : ((w5.setCell ⟨C, 7, none⟩ (.slice (some ⟨g5, 0, none⟩) (init.length + 1 + 1) cap5)).setCell ⟨C, 8, none⟩ (.int .i64 ((init.length : Int) + 1))).cell? ⟨C, 6, none⟩ = some (.pointer (some ⟨t0, 0, none⟩)) := by rw [set_off (by decide), set_off (by decide)]; exact e6
    have m14 : ((w5.setCell ⟨C, 7, none⟩ (.slice (some ⟨g5, 0, none⟩) (init.length + 1 + 1) cap5)).setCell ⟨C, 8, none⟩ (.int .i64 ((init.length : Int) + 1))).cell? ⟨C, 14, none⟩ = some .nilIface := by rw [set_off (by decide), set_off (by decide)]; exact e14
    have mf : ((w5.setCell ⟨C, 7, none⟩ (.slice (some ⟨g5, 0, none⟩) (init.length + 1 + 1) cap5)).setCell ⟨C, 8, none⟩ (.int .i64 ((init.length : Int) + 1))).frozen? ⟨C, 6, none⟩ = false := by rw [World.frozen?_setCell, World.frozen?_setCell]; exact j6
    have ms : ((w5.setCell ⟨C, 7, none⟩ (.slice (some ⟨g5, 0, none⟩) (init.length + 1 + 1) cap5)).setCell ⟨C, 8, none⟩ (.int .i64 ((init.length : Int) + 1))).heap.size = w5.heap.size := by simp
    refine (forkT (some ⟨t0, 0, none⟩) _).mono ?_
    rintro e w6 ⟨t, rfl, ht1, ht2, ht3, ht4, hb6⟩
    rw [ms] at ht1 hb6
    have i6 := (hb6.cell (p := ⟨C, 6, none⟩) hC5w).trans m6
    have i14 := (hb6.cell (p := ⟨C, 14, none⟩) hC5w).trans m14
    have l6 := (hb6.frozen (p := ⟨C, 6, none⟩) hC5w).trans mf
    have HT3 := Lib.hid (ht3.trans H6.out.symm)
    have HT4 := Lib.hid ht4
    have HB6 := Lib.hid hb6
    clear hb6 m6 m14 mf ms ht3 ht4 e6 e8 e14 j6 j8
    go_wp2
    go_end0
    have hg := (HG3.out.trans (World.grownBy_alloc w3 _ _)).trans (Go.Fmt.grown_drewN (n := 1) HGR.out)
    have hat : g = g5 ∨ w.heap.size ≤ g5 := by
      rcases HAT.out with h | h
      · exact .inl (by simpa [Value.ownBlock] using h)
      · exact .inr (by omega)
    obtain ⟨F', b1, b2, b3⟩ := HC.out.enter H7.out hg HOW.out hat HB6.out ht1 ht2 HT3.out HT4.out
    exact ⟨rfl, F', t, _, b1, b2, b3, by have := hg.size; omega⟩
end Go.Proofs.YtiohjlnebeifaaaFmt.Sc
