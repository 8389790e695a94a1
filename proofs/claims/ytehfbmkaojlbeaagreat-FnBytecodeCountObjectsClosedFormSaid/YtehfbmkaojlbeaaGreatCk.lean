/- The law's own copies of its slices; its guard. -/
import Derived.Test.YtehfbmkaojlbeaaGreatCf
import Derived.Laws.OwnMore
namespace Go.Proofs.YtehfbmkaojlbeaaGreat.Co
open Go.ChangeShapes Go.WideShapes Go.ChangeAt Go.RowKit Go.Maps Go.Lib
theorem infoU8 : (Tryz.prog.info? 5).map (fun i => (i.zero, i.size, i.bytes)) = some (some (.int .u8 0), 1, 1) := by kernel_rfl
theorem infoU16 : (Tryz.prog.info? 25).map (fun i => (i.zero, i.size, i.bytes)) = some (some (.int .u16 0), 1, 2) := by kernel_rfl
/-- The copy's block: the first k cells are laid. -/
structure Cl (w : World) (g n k : Nat) (q : IntKind) (f : Nat → Nat) : Prop where
  at_ : ∀ j, j < k → w.cell? ⟨g, j, none⟩ = some (.int q (f j))
  there : ∀ j, j < n → ∃ v, w.cell? ⟨g, j, none⟩ = some v
  frz : ∀ j, w.frozen? ⟨g, j, none⟩ = false
theorem Cl.start {w w' : World} {n : Nat} {e : TypeId} {q : IntKind} {f : Nat → Nat} {xs : List Value} (h : w'.ownsRow w.heap.size e 1 (.slice (some ⟨w.heap.size, 0, none⟩) n n) n xs) : Cl w' w.heap.size n 0 q f := by
  rcases h.2 with ⟨e1, _⟩ | ⟨g, cap, cur, e1, _, h2, h3, h4, h5, _⟩
  · cases e1
  · cases e1
    refine ⟨fun j hj => by omega, fun j hj => ⟨cur[j]'(by omega), ?_⟩, fun j => ?_⟩
    · simp only [World.cell?, h2]
      simp [Array.getElem?_eq_getElem (show j < cur.size by omega)]
    · simp [World.frozen?, h2]
theorem Cl.set {w : World} {g n k : Nat} {q : IntKind} {f : Nat → Nat} (h : Cl w g n k q f) (hk : k < n) : Cl (w.setCell ⟨g, k, none⟩ (.int q (f k))) g n (k + 1) q f := by
  refine ⟨fun j hj => ?_, fun j hj => ?_, fun j => by rw [World.frozen?_setCell]; exact h.frz j⟩
  · by_cases hjk : k = j
    · subst hjk
      obtain ⟨v, hv⟩ := h.there k hk
      exact World.cell?_setCell_same _ _ _ hv
    · exact (World.cell?_setCell_other _ _ _ _ (fun e => hjk (congrArg Addr.off e))).trans (h.at_ j (by omega))
  · by_cases hjk : k = j
    · subst hjk
      obtain ⟨v, hv⟩ := h.there k hk
      exact ⟨_, World.cell?_setCell_same _ _ _ hv⟩
    · obtain ⟨v, hv⟩ := h.there j hj
      exact ⟨v, (World.cell?_setCell_other _ _ _ _ (fun e => hjk (congrArg Addr.off e))).trans hv⟩
theorem Cl.row {w : World} {g n : Nat} {q : IntKind} {f : Nat → Nat} (h : Cl w g n n q f) : InRow w (some ⟨g, 0, none⟩) q f n := fun j hj => ⟨_, rfl, by
  rw [show (⟨g, 0, none⟩ : Addr).add j = ⟨g, j, none⟩ by
    by_cases h : j = 0
    · subst h; rfl
    · simp [Addr.add, h]]
  exact h.at_ j hj⟩
/-- What a copy gives. -/
def CopyOf (w : World) (q : IntKind) (f : Nat → Nat) (n : Nat) (e : Ending) (w' : World) : Prop := ∃ p cap, e = .returned (.slice p n cap) ∧ InRow w' p q f n ∧ Below w.heap.size w w'
set_option maxRecDepth 100000 in
set_option maxHeartbeats 1000000 in
theorem cloneU8 (p : Option Addr) (n cap : Nat) (f : Nat → Nat) (w : World) (h : InRow w p .u8 f n) (hl : n ≤ 1048576) (hp : p = none → cap = 0) : Calls Tryz.prog 5 #[.slice p n cap] w (CopyOf w .u8 f n) := by
  have he : ∀ p l c w, (binOp .eql 22 (.slice p l c) (.slice none 0 0)).run Tryz.prog w = .ok (.bool p.isNone) w := fun p l c w => by cases p <;> rfl
  obtain ⟨iU, hiU⟩ := info_parts infoU8
  have HU := Lib.hid hiU
  clear hiU
  cases p with
  | none =>
    obtain rfl : n = 0 := by
      rcases Nat.eq_zero_or_pos n with e | e
      · exact e
      · obtain ⟨x, hx, _⟩ := h 0 e; cases hx
    obtain rfl := hp rfl
    have he1 := he none 0 0
    clear he hp
    go_enter Tryz.func5, Tryz.ntmps5
    go_wp2
    go_ret
    exact ⟨_, _, rfl, fun j hj => by omega, Below.refl _ _⟩
  | some x =>
    have he1 := he (some x) n cap
    have HX := Lib.hid h
    obtain ⟨w0, m0, o0, y0⟩ := run_make_full (P := Tryz.prog) w w.heap.size 22 5 iU (.int .u8 0) 1 Tryz.underlying22 HU.out.1 HU.out.2.1 HU.out.2.2.1 .i64 .i64 n (by rw [HU.out.2.2.2]; omega) (by unfold maxLen; omega) (Nat.le_refl _)
    have HC0 : Hid (Cl w0 w.heap.size n 0 .u8 f) := Lib.hid (Cl.start o0)
    have HB0 : Hid (Below w.heap.size w w0) := Lib.hid ((Below.refl _ _).grown y0 (Nat.le_refl _) (fun j hj => by cases hj))
    clear he h hp o0 y0
    go_enter Tryz.func5, Tryz.ntmps5
    go_wp2
    go_loopw [4] (fun vi wr => ∃ k : Nat, vi = .int .i64 k ∧ k ≤ n ∧ Hid (Cl wr w.heap.size n k .u8 f) ∧ Hid (Below w.heap.size w wr)) (fun vi _ => match vi with | .int _ z => n - z.toNat | _ => 0)
    case atStart => exact ⟨0, rfl, Nat.zero_le _, HC0, HB0⟩
    case round =>
      obtain ⟨k, rfl, hk, hc, hb⟩ := hrel
      by_cases hlt : k < n
      · have hlt' : (k : Int) < (n : Int) := by omega
        obtain ⟨x', hx', hcx⟩ := HX.out k hlt
        cases hx'
        have hcx' := (hb.out.cell (World.block_lt_of_cell? w _ hcx)).trans hcx
        obtain ⟨v, hv⟩ := hc.out.there k hlt
        have hf := hc.out.frz k
        clear hcx
        go_wp2_with (fail)
        go_roundw
        case rel => exact ⟨k + 1, by simp, by omega, Lib.hid (hc.out.set hlt), Lib.hid (hb.out.setCell (Nat.le_refl _) _)⟩
        case measure => simp only []; omega
      · have hlt' : ¬ (k : Int) < (n : Int) := by omega
        obtain rfl : k = n := by omega
        go_wp2
        go_ret
        exact ⟨_, _, rfl, hc.out.row, hb.out⟩
set_option maxRecDepth 100000 in
set_option maxHeartbeats 1000000 in
theorem cloneU16 (p : Option Addr) (n cap : Nat) (f : Nat → Nat) (w : World) (h : InRow w p .u16 f n) (hl : n ≤ 1048576) (hp : p = none → cap = 0) : Calls Tryz.prog 6 #[.slice p n cap] w (CopyOf w .u16 f n) := by
  have he : ∀ p l c w, (binOp .eql 23 (.slice p l c) (.slice none 0 0)).run Tryz.prog w = .ok (.bool p.isNone) w := fun p l c w => by cases p <;> rfl
  obtain ⟨iU, hiU⟩ := info_parts infoU16
  have HU := Lib.hid hiU
  clear hiU
  cases p with
  | none =>
    obtain rfl : n = 0 := by
      rcases Nat.eq_zero_or_pos n with e | e
      · exact e
      · obtain ⟨x, hx, _⟩ := h 0 e; cases hx
    obtain rfl := hp rfl
    have he1 := he none 0 0
    clear he hp
    go_enter Tryz.func6, Tryz.ntmps6
    go_wp2
    go_ret
    exact ⟨_, _, rfl, fun j hj => by omega, Below.refl _ _⟩
  | some x =>
    have he1 := he (some x) n cap
    have HX := Lib.hid h
    obtain ⟨w0, m0, o0, y0⟩ := run_make_full (P := Tryz.prog) w w.heap.size 23 25 iU (.int .u16 0) 1 Tryz.underlying23 HU.out.1 HU.out.2.1 HU.out.2.2.1 .i64 .i64 n (by rw [HU.out.2.2.2]; omega) (by unfold maxLen; omega) (Nat.le_refl _)
    have HC0 : Hid (Cl w0 w.heap.size n 0 .u16 f) := Lib.hid (Cl.start o0)
    have HB0 : Hid (Below w.heap.size w w0) := Lib.hid ((Below.refl _ _).grown y0 (Nat.le_refl _) (fun j hj => by cases hj))
    clear he h hp o0 y0
    go_enter Tryz.func6, Tryz.ntmps6
    go_wp2
    go_loopw [4] (fun vi wr => ∃ k : Nat, vi = .int .i64 k ∧ k ≤ n ∧ Hid (Cl wr w.heap.size n k .u16 f) ∧ Hid (Below w.heap.size w wr)) (fun vi _ => match vi with | .int _ z => n - z.toNat | _ => 0)
    case atStart => exact ⟨0, rfl, Nat.zero_le _, HC0, HB0⟩
    case round =>
      obtain ⟨k, rfl, hk, hc, hb⟩ := hrel
      by_cases hlt : k < n
      · have hlt' : (k : Int) < (n : Int) := by omega
        obtain ⟨x', hx', hcx⟩ := HX.out k hlt
        cases hx'
        have hcx' := (hb.out.cell (World.block_lt_of_cell? w _ hcx)).trans hcx
        obtain ⟨v, hv⟩ := hc.out.there k hlt
        have hf := hc.out.frz k
        clear hcx
        go_wp2_with (fail)
        go_roundw
        case rel => exact ⟨k + 1, by simp, by omega, Lib.hid (hc.out.set hlt), Lib.hid (hb.out.setCell (Nat.le_refl _) _)⟩
        case measure => simp only []; omega
      · have hlt' : ¬ (k : Int) < (n : Int) := by omega
        obtain rfl : k = n := by omega
        go_wp2
        go_ret
        exact ⟨_, _, rfl, hc.out.row, hb.out⟩
end Go.Proofs.YtehfbmkaojlbeaaGreat.Co
