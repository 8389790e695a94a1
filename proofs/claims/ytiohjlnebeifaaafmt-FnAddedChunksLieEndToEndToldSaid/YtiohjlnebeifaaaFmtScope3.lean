/- The compiler's stack of scopes: leaveScope, a new compiler, the wrappers. -/
import Derived.Test.YtiohjlnebeifaaaFmtScope2
namespace Go.Proofs.YtiohjlnebeifaaaFmt.Sc
open Go.ChangeShapes Go.WideShapes Go.ChangeAt Go.RowKit Go.Nest

theorem parT (t : Nat) (v : Value) (w : World) (h0 : w.cell? ⟨t, 0, none⟩ = some v) (h1 : w.cell? ⟨t, 1, none⟩ = some (.bool false)) :
    Calls Tryf.prog 35 #[.pointer (some ⟨t, 0, none⟩), .bool true] w fun e w' => e = .returned v ∧ ∃ k, w' = w.drewN k := by
  go_enter Tryf.func35, Tryf.ntmps35
  go_wp2
  go_ret
  exact ⟨rfl, 0, rfl⟩
set_option maxRecDepth 100000 in
set_option maxHeartbeats 1000000 in
theorem levS (F : Nat → Prop) (C : Nat) (t t1 : Nat) (ts : List Nat) (init : List It) (s s1 : It) (w : World) (h : CompS w F C (t :: t1 :: ts) (init ++ [s1]) s) (hn : init.length ≤ 1000000) :
    Calls Tryf.prog 31 #[.pointer (some ⟨C, 0, none⟩)] w fun e w' => ∃ m, e = .returned (.tuple #[s.v, m]) ∧ CompS w' F C (t1 :: ts) init s1 ∧ Turned (fun k => k = C) w w' := by
  obtain ⟨g, cap, h7, hN⟩ := h.sc
  have h8 := h.idx
  obtain ⟨sv, h6, hch⟩ := h.sym
  obtain ⟨rfl, ht1, u, ht0, hch2⟩ := hch
  obtain ⟨rfl, _⟩ := hch2
  have h14 := h.trc
  have f6 := h.frz 6
  have f7 := h.frz 7
  have f8 := h.frz 8
  have hv := (nest_top_v hN).1
  obtain ⟨m, hm⟩ := nest_top_m hN
  have el : (init ++ [s1]).length = init.length + 1 := by simp
  have hcap : init.length + 1 + 1 ≤ cap := by
    have hr := hN.row
    obtain ⟨p, c2, e0, hcp, _⟩ := row_form hr
    simp only [Value.slice.injEq] at e0
    rw [e0.2.2]
    simp at hcp ⊢
    omega
  rw [el] at h7 h8 hv hm
  have HC := Lib.hid h
  have H7 := Lib.hid h7
  have htC : t ≠ C := (h.tF t (by simp)).2.1
  have HCU := Lib.hid (curI C g (init.length + 1) cap s.v · · · (by omega) ·)
  have HCM := Lib.hid (curM C g (init.length + 1) cap m · · · (by omega) ·)
  have HV := Lib.hid hv
  have HM := Lib.hid hm
  have HP := Lib.hid (parT t (.pointer (some ⟨t1, 0, none⟩)))
  have HT0 := Lib.hid ht0
  have HT1 := Lib.hid ht1
  have HTC := Lib.hid htC
  clear h hN el hv hm ht0 ht1 htC
  have s1a : (0 : Int) ≤ (init.length : Int) + 1 := by omega
  have s2a : (init.length : Int) + 1 ≤ (cap : Int) := by omega
  have s3a : ((init.length : Int) + 1).toNat = init.length + 1 := by omega
  go_enter Tryf.func31, Tryf.ntmps31
  go_wp2_with (first | (go_at_call 28; refine (HCU.out _ h7 h8 HV.out).mono ?_; rintro e w' ⟨rfl, k0, rfl⟩) | (go_at_call 34; refine (HCM.out _ (by exact h7) (by exact h8) (by exact HM.out)).mono ?_; rintro e w' ⟨rfl, k1, rfl⟩))
  have HPA := fun (w' : World) (h0 : w'.cell? ⟨t, 0, none⟩ = some (.pointer (some ⟨t1, 0, none⟩))) (h1 : w'.cell? ⟨t, 1, none⟩ = some (.bool false)) => HP.out w' h0 h1
  have HPB := Lib.hid HPA
  clear HPA
  have T0 : Hid (∀ (W : World), W.heap = ((w.setCell ⟨C, 7, none⟩ (.slice (some ⟨g, 0, none⟩) (init.length + 1) cap)).setCell ⟨C, 8, none⟩ (.int .i64 init.length)).heap → W.cell? ⟨t, 0, none⟩ = some (.pointer (some ⟨t1, 0, none⟩)) ∧ W.cell? ⟨t, 1, none⟩ = some (.bool false)) := Lib.hid (fun W hW => by
    have hk : W.heap[t]? = w.heap[t]? := by rw [hW, heap_setCell_other _ _ _ _ HTC.out, heap_setCell_other _ _ _ _ HTC.out]
    exact ⟨(World.cell?_of_block (a := ⟨t, 0, none⟩) hk).trans HT0.out, (World.cell?_of_block (a := ⟨t, 1, none⟩) hk).trans HT1.out⟩)
  go_region
  all_goals
    go_wp2_with (fail)
    refine (HPB.out _ (T0.out _ (by exact rfl)).1 (T0.out _ (by exact rfl)).2).mono ?_
    rintro e w' ⟨rfl, k2, rfl⟩
    go_wp2
    go_ret2
    exact ⟨m, rfl, HC.out.leave H7.out rfl rfl rfl rfl⟩

theorem zCurI (F : Nat → Prop) (C : Nat) (ts : List Nat) (init : List It) (s : It) (w : World) (h : CompS w F C ts init s) (hn : init.length ≤ 1000000) :
    Calls Tryf.prog 17 #[.pointer (some ⟨C, 0, none⟩)] w fun e w' => e = .returned s.v ∧ ∃ k, w' = w.drewN k := by
  obtain ⟨g, cap, h7, hN⟩ := h.sc
  have HC := Lib.hid (curI C g init.length cap s.v w h7 h.idx (by omega) (nest_top_v hN).1)
  go_enter Tryf.func17, Tryf.ntmps17
  go_wp2_with (fail)
  refine HC.out.mono ?_
  rintro e w' ⟨rfl, k, rfl⟩
  go_wp2
  go_ret
  exact ⟨rfl, k, rfl⟩
theorem zAddI (F : Nat → Prop) (C : Nat) (ts : List Nat) (init : List It) (s : It) (A : Option Addr) (c : Nat) (bs : List Value) (w : World) (h : CompS w F C ts init s) (hn : init.length ≤ 1000000) (hl : s.xs.length + bs.length ≤ 1048576)
    (hnews : SrcB w A c bs) (h1 : ∀ u ∈ bs, u.oneCell' = true) :
    Calls Tryf.prog 18 #[.pointer (some ⟨C, 0, none⟩), .slice A bs.length c] w fun e w' => e = .returned (.int .i64 s.xs.length) ∧ ∃ F' v', CompS w' F' C ts init ⟨v', s.ex, s.xs ++ bs⟩ ∧ Turned (fun k => F k ∨ k = C) w w' ∧ Ch F F' w := by
  have HC := Lib.hid (addI F C ts init s A c bs w h (by omega) hl hnews h1)
  clear h hn hl hnews h1
  go_enter Tryf.func18, Tryf.ntmps18
  go_wp2_with (fail)
  refine HC.out.mono ?_
  rintro e w' ⟨rfl, hx⟩
  have HX := Lib.hid hx
  clear hx
  go_wp2
  go_ret
  exact ⟨rfl, HX.out⟩
theorem zEntS (F : Nat → Prop) (C : Nat) (ts : List Nat) (init : List It) (s : It) (w : World) (h : CompS w F C ts init s) (hn : init.length ≤ 1000000) :
    Calls Tryf.prog 19 #[.pointer (some ⟨C, 0, none⟩)] w fun e w' => e = .returned (.tuple #[]) ∧ ∃ F' t ex, CompS w' F' C (t :: ts) (init ++ [s]) ⟨.slice none 0 0, ex, []⟩ ∧ Turned (fun k => F k ∨ k = C) w w' ∧ Ch F F' w ∧ w.heap.size ≤ t := by
  have HC := Lib.hid (entS F C ts init s w h (by omega))
  clear h hn
  go_enter Tryf.func19, Tryf.ntmps19
  go_wp2_with (fail)
  refine HC.out.mono ?_
  rintro e w' ⟨rfl, hx⟩
  have HX := Lib.hid hx
  clear hx
  go_wp2
  go_end0
  exact ⟨rfl, HX.out⟩
theorem zLevS (F : Nat → Prop) (C : Nat) (t t1 : Nat) (ts : List Nat) (init : List It) (s s1 : It) (w : World) (h : CompS w F C (t :: t1 :: ts) (init ++ [s1]) s) (hn : init.length ≤ 1000000) :
    Calls Tryf.prog 20 #[.pointer (some ⟨C, 0, none⟩)] w fun e w' => e = .returned s.v ∧ CompS w' F C (t1 :: ts) init s1 ∧ Turned (fun k => k = C) w w' := by
  have HC := Lib.hid (levS F C t t1 ts init s s1 w h hn)
  clear h hn
  go_enter Tryf.func20, Tryf.ntmps20
  go_wp2_with (fail)
  refine HC.out.mono ?_
  rintro e w' ⟨m, rfl, hx⟩
  have HX := Lib.hid hx
  clear hx
  go_wp2
  go_ret
  exact ⟨rfl, HX.out⟩

/-- A new compiler: one empty scope. -/
def NewS (w : World) (e : Ending) (w' : World) : Prop := ∃ F C t ex, e = .returned (.pointer (some ⟨C, 0, none⟩)) ∧ CompS w' F C [t] [] ⟨.slice none 0 0, ex, []⟩ ∧ Below w.heap.size w w' ∧ w.heap.size ≤ C ∧ (∀ k, F k → w.heap.size ≤ k) ∧ w.heap.size ≤ t
theorem new_step {W W' : World} {o : Obj} {n : Nat} (hn : W.heap.size = n) (hW : W' = W.alloc o) : W'.heap.size = n + 1 ∧ W'.heap[n]? = some o ∧ (∀ k, k < n → W'.heap[k]? = W.heap[k]?) ∧ Below n W W' := by
  subst hn hW
  exact ⟨by simp, heap_alloc_new W o, fun k hk => Below.heap_alloc W o k hk, (Below.refl _ _).alloc (Nat.le_refl _) _⟩
theorem newS_plain (w W1 W2 W3 W4 W5 W6 : World) (H : Nat) (o1 o3 o4 : Obj) (ta ca : Array Value) (tt ct : TypeId) (m1 m2 : Value) (hH : w.heap.size = H) (h1 : W1 = w.alloc o1) (h2 : W2 = W1.alloc (.cells ta tt)) (h3 : W3 = W2.alloc o3) (h4 : W4 = W3.alloc o4) (h5 : W5 = W4.alloc (.cells #[.slice none 0 0, m1, m2] 51)) (h6 : W6 = W5.alloc (.cells ca ct))
    (t0 : ta[0]? = some (.pointer none)) (t1 : ta[1]? = some (.bool false)) (c6 : ca[6]? = some (.pointer (some ⟨H + 1, 0, none⟩))) (c7 : ca[7]? = some (.slice (some ⟨H + 4, 0, none⟩) 1 1)) (c8 : ca[8]? = some (.int .i64 0)) (c14 : ca[14]? = some .nilIface) :
    CompS W6 (fun k => k = H + 4) (H + 5) [H + 1] [] ⟨.slice none 0 0, [m1, m2], []⟩ ∧ Below H w W6 := by
  obtain ⟨s1, b1, k1, e1⟩ := new_step hH h1
  obtain ⟨s2, b2, k2, e2⟩ := new_step s1 h2
  obtain ⟨s3, b3, k3, e3⟩ := new_step s2 h3
  obtain ⟨s4, b4, k4, e4⟩ := new_step s3 h4
  obtain ⟨s5, b5, k5, e5⟩ := new_step s4 h5
  obtain ⟨s6, b6, k6, e6⟩ := new_step s5 h6
  have d2 : W6.heap[H + 1]? = some (.cells ta tt) := by rw [k6 _ (by omega), k5 _ (by omega), k4 _ (by omega), k3 _ (by omega)]; exact b2
  have d5 : W6.heap[H + 4]? = some (.cells #[.slice none 0 0, m1, m2] 51) := by rw [k6 _ (by omega)]; exact b5
  have d6 : W6.heap[H + 5]? = some (.cells ca ct) := b6
  have cc : ∀ j v, ca[j]? = some v → W6.cell? ⟨H + 5, j, none⟩ = some v := fun j v hv => by unfold World.cell?; simp only [d6]; simpa using hv
  have tc : ∀ j v, ta[j]? = some v → W6.cell? ⟨H + 1, j, none⟩ = some v := fun j v hv => by unfold World.cell?; simp only [d2]; simpa using hv
  refine ⟨⟨⟨H + 4, 1, cc 7 _ c7, ?_, ?_, ?_, ?_, ?_, ?_⟩, cc 8 _ c8, ⟨_, cc 6 _ c6, rfl, tc 1 _ t1, _, tc 0 _ t0, rfl⟩, rfl, cc 14 _ c14, fun j => by unfold World.frozen?; simp only [d6]; simp, by omega, by omega, fun t ht => ?_, fun k hk => by omega⟩, ?_⟩
  · exact ⟨rfl, .inr ⟨H + 4, 1, _, rfl, Nat.zero_le _, d5, by simp, by decide, rfl, rfl⟩⟩
  · intro s hs
    simp only [List.nil_append, List.mem_singleton] at hs
    subst hs; rfl
  · intro s hs
    simp only [List.nil_append, List.mem_singleton] at hs
    subst hs; exact World.ownsRow_nil _ _ _ _
  · intro k hk
    have : H + 4 = k := by simpa [Value.ownBlock] using hk
    omega
  · intro s hs k hk
    simp only [List.nil_append, List.mem_singleton] at hs
    subst hs
    simp [Value.ownBlock] at hk
  · simp
  · simp only [List.mem_singleton] at ht
    subst ht
    omega
  · exact e1.trans ((e2.mono (by omega)).trans ((e3.mono (by omega)).trans ((e4.mono (by omega)).trans ((e5.mono (by omega)).trans (e6.mono (by omega))))))
set_option maxRecDepth 100000 in
set_option maxHeartbeats 1000000 in
theorem newS (w : World) : Calls Tryf.prog 9 #[] w (NewS w) := by
  have hmm := @run_makeMap Tryf.prog
  go_enter Tryf.func9, Tryf.ntmps9
  go_wp2
  go_ret
  refine ⟨_, w.heap.size + 1 + 1 + 1 + 1 + 1, w.heap.size + 1, _, rfl, (newS_plain w _ _ _ _ _ _ w.heap.size _ _ _ _ _ _ _ _ _ rfl rfl rfl rfl rfl rfl rfl ?_ ?_ ?_ ?_ ?_ ?_).1, ?_, by omega, fun k hk => by omega, by omega⟩
  case refine_7 => exact (((((((Below.refl _ _).alloc (Nat.le_refl _) _).alloc (by simp) _).alloc (by simp; omega) _).alloc (by simp; omega) _).alloc (by simp; omega) _).alloc (by simp; omega) _)
  all_goals rfl
end Go.Proofs.YtiohjlnebeifaaaFmt.Sc
