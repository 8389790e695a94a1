/- CountObjects on values that hold nothing, and on arrays of such. -/
import Derived.Test.YtehfbmkaojlbeaaGreatRows
import Derived.Test.YtehfbmkaojlbeaaGreatFrame
import Derived.LoopTactic
import Derived.Deep.LoopGhost
import Derived.RegionTactic
import Derived.WalkSpells
import Derived.Outline
import Derived.KernelRfl
import Derived.Lib.Hide
namespace Go.Proofs.YtehfbmkaojlbeaaGreat.Co
open Go.ChangeShapes Go.WideShapes Go.ChangeAt Go.RowKit

/-- A type whose objects hold no other object. -/
def LeafT (t : TypeId) : Prop := t = 36 ∨ t = 44 ∨ t = 57 ∨ t = 63
/-- What CountObjects says of a value, in whatever world lies over w but for block G. -/
def Says (v : Value) (n : Nat) (w : World) : Prop := Calls Tryz.prog 10 #[v] w fun e w' => e = .returned (.int .i64 n) ∧ Below w.heap.size w w'
/-- A value of type t is not of type s. -/
def Not (t s : TypeId) : Prop := ∀ (p : Value) (w : World), (Instr.typeAssert (.iface t p) 53 s true).run Tryz.prog w = .ok (.tuple #[.pointer none, .bool false]) w
def Yes (s : TypeId) : Prop := ∀ (a : Addr) (w : World), (Instr.typeAssert (.iface s (.pointer (some a))) 53 s true).run Tryz.prog w = .ok (.tuple #[.pointer (some a), .bool true]) w
theorem noArr {t : TypeId} (h : LeafT t ∨ t = 49 ∨ t = 54 ∨ t = 67 ∨ t = 60) : Not t 41 := by
  rcases h with (rfl | rfl | rfl | rfl) | rfl | rfl | rfl | rfl <;> (intro p w; kernel_rfl)
theorem noIArr {t : TypeId} (h : LeafT t ∨ t = 54 ∨ t = 67 ∨ t = 60) : Not t 49 := by
  rcases h with (rfl | rfl | rfl | rfl) | rfl | rfl | rfl <;> (intro p w; kernel_rfl)
theorem noMap {t : TypeId} (h : LeafT t ∨ t = 67 ∨ t = 60) : Not t 54 := by
  rcases h with (rfl | rfl | rfl | rfl) | rfl | rfl <;> (intro p w; kernel_rfl)
theorem noIMap {t : TypeId} (h : LeafT t ∨ t = 60) : Not t 67 := by
  rcases h with (rfl | rfl | rfl | rfl) | rfl <;> (intro p w; kernel_rfl)
theorem noErr {t : TypeId} (h : LeafT t) : Not t 60 := by
  rcases h with rfl | rfl | rfl | rfl <;> (intro p w; kernel_rfl)
theorem yesArr : Yes 41 := fun _ _ => by kernel_rfl
theorem yesIArr : Yes 49 := fun _ _ => by kernel_rfl
theorem yesMap : Yes 54 := fun _ _ => by kernel_rfl
theorem yesIMap : Yes 67 := fun _ _ => by kernel_rfl
theorem yesErr : Yes 60 := fun _ _ => by kernel_rfl
set_option maxRecDepth 100000 in
set_option maxHeartbeats 1000000 in
theorem coLeaf0 (t : TypeId) (ht : LeafT t) (p : Value) (w : World) : Calls Tryz.prog 10 #[.iface t p] w fun e w' => e = .returned (.int .i64 1) ∧ w = w' := by
  have e1 := noArr (.inl ht) p w
  have e2 := noIArr (.inl ht) p w
  have e3 := noMap (.inl ht) p w
  have e4 := noIMap (.inl ht) p w
  have e5 := noErr ht p w
  go_enter Tryz.func10, Tryz.ntmps10
  go_wp2
  go_ret
  exact ⟨rfl, rfl⟩
theorem coLeaf (t : TypeId) (ht : LeafT t) (p : Value) (w : World) : Says (.iface t p) 1 w :=
  (coLeaf0 t ht p w).mono fun _ _ h => ⟨h.1, h.2 ▸ Below.refl _ _⟩
/-- A row of such values. -/
def Leaves (w : World) (q : Option Addr) (m : Nat) : Prop := ∀ j, j < m → ∃ G t p, q = some ⟨G, 0, none⟩ ∧ LeafT t ∧ w.cell? ⟨G, j, none⟩ = some (.iface t p)
theorem Leaves.old {w w' : World} {q : Option Addr} {m : Nat} (h : Leaves w q m) (hb : Below w.heap.size w w') : Leaves w' q m := fun j hj => by
  obtain ⟨G, t, p, h1, h2, h3⟩ := h j hj
  exact ⟨G, t, p, h1, h2, (hb.cell (p := ⟨G, j, none⟩) (World.block_lt_of_cell? w _ h3)).trans h3⟩
set_option maxRecDepth 100000 in
set_option maxHeartbeats 2000000 in
theorem coArr (B m cap : Nat) (q : Option Addr) (w : World) (hB : w.cell? ⟨B, 0, none⟩ = some (.slice q m cap)) (hL : Leaves w q m) (hm : m ≤ 1048576) : Says (.iface 41 (.pointer (some ⟨B, 0, none⟩))) (1 + m) w := by
  have e1 := yesArr ⟨B, 0, none⟩ w
  have HL := Lib.hid hL
  clear hL
  unfold Says
  go_enter Tryz.func10, Tryz.ntmps10
  go_wp2
  go_loopw [2, 25] (fun vc vi wr => ∃ j : Nat, vi = .int .i64 j ∧ vc = .int .i64 ((1 + j : Nat) : Int) ∧ j ≤ m ∧ Hid (Below w.heap.size w wr)) (fun _ vi _ => match vi with | .int _ z => m - z.toNat | _ => 0)
  case atStart => exact ⟨0, rfl, rfl, Nat.zero_le _, Lib.hid (Below.refl _ _)⟩
  case round =>
    obtain ⟨j, rfl, rfl, hj, hb⟩ := hrel
    by_cases hlt : j < m
    · have hlt' : (j : Int) < (m : Int) := by omega
      obtain ⟨G, t, p, rfl, ht, hc⟩ := HL.out j hlt
      have hc' : wr.cell? ⟨G, j, none⟩ = some (.iface t p) := (hb.out.cell (p := ⟨G, j, none⟩) (World.block_lt_of_cell? w _ hc)).trans hc
      have HC := Lib.hid (coLeaf t ht p wr)
      clear hc
      go_wp2_with (fail)
      refine HC.out.mono ?_
      rintro e w2 ⟨rfl, hb2⟩
      go_wp2_with (fail)
      go_roundw
      case rel => exact ⟨j + 1, by simp, by simp; omega, by omega, Lib.hid (hb.out.trans (hb2.mono hb.out.size))⟩
      case measure => simp only []; omega
    · have hlt' : ¬ (j : Int) < (m : Int) := by omega
      have hjm : j = m := by omega
      subst hjm
      go_wp2
      go_ret
      exact ⟨rfl, hb.out⟩
set_option maxRecDepth 100000 in
set_option maxHeartbeats 2000000 in
theorem coIArr (B m cap : Nat) (q : Option Addr) (w : World) (hB : w.cell? ⟨B, 0, none⟩ = some (.slice q m cap)) (hL : Leaves w q m) (hm : m ≤ 1048576) : Says (.iface 49 (.pointer (some ⟨B, 0, none⟩))) (1 + m) w := by
  have e1 := noArr (.inr (.inl rfl)) (.pointer (some ⟨B, 0, none⟩)) w
  have e2 := yesIArr ⟨B, 0, none⟩ w
  have HL := Lib.hid hL
  clear hL
  unfold Says
  go_enter Tryz.func10, Tryz.ntmps10
  go_wp2
  go_loopw [2, 42] (fun vc vi wr => ∃ j : Nat, vi = .int .i64 j ∧ vc = .int .i64 ((1 + j : Nat) : Int) ∧ j ≤ m ∧ Hid (Below w.heap.size w wr)) (fun _ vi _ => match vi with | .int _ z => m - z.toNat | _ => 0)
  case atStart => exact ⟨0, rfl, rfl, Nat.zero_le _, Lib.hid (Below.refl _ _)⟩
  case round =>
    obtain ⟨j, rfl, rfl, hj, hb⟩ := hrel
    by_cases hlt : j < m
    · have hlt' : (j : Int) < (m : Int) := by omega
      obtain ⟨G, t, p, rfl, ht, hc⟩ := HL.out j hlt
      have hc' : wr.cell? ⟨G, j, none⟩ = some (.iface t p) := (hb.out.cell (p := ⟨G, j, none⟩) (World.block_lt_of_cell? w _ hc)).trans hc
      have HC := Lib.hid (coLeaf t ht p wr)
      clear hc
      go_wp2_with (fail)
      refine HC.out.mono ?_
      rintro e w2 ⟨rfl, hb2⟩
      go_wp2_with (fail)
      go_roundw
      case rel => exact ⟨j + 1, by simp, by simp; omega, by omega, Lib.hid (hb.out.trans (hb2.mono hb.out.size))⟩
      case measure => simp only []; omega
    · have hlt' : ¬ (j : Int) < (m : Int) := by omega
      have hjm : j = m := by omega
      subst hjm
      go_wp2
      go_ret
      exact ⟨rfl, hb.out⟩
end Go.Proofs.YtehfbmkaojlbeaaGreat.Co
