/- The law FnBytesCopyEqualAndFresh: its walk. -/
import Derived.Test.YtnjinknpckkioaaSame
import Derived.StillTailTactics
namespace Go.Proofs.Ytnjinknpckkioaa.Fm
open Go.ChangeShapes Go.WideShapes Go.ChangeAt Go.RowKit Go.Fmt

set_option maxHeartbeats 1000000 in
theorem guardCF (p : Option Addr) (l c : Nat) (w : World) (hsz : l ≤ 140737488351232) : Calls Try.prog 17 #[.slice p l c] w fun e w' => e = .returned (.bool (decide (l ≤ 1048576))) ∧ w = w' := by
  by_cases h : l ≤ 1048576
  all_goals
    go_enter Try.func17, Try.ntmps17
    go_wp2
    go_ret
    exact ⟨by simp [h], rfl⟩

theorem clone_own {w w1 : World} {p : Option Addr} {bs : List UInt8} {e : Ending} (h : CopyOf w p bs e w1) :
    ∃ q c, e = .returned (.slice q bs.length c) ∧ w1.ownsRow w.heap.size 5 1 (.slice q bs.length c) bs.length (bcells bs) ∧ Below w.heap.size w w1 := by
  rcases h with ⟨rfl, rfl, rfl, rfl⟩ | ⟨g, rfl, hown, hb⟩
  · exact ⟨none, 0, rfl, World.ownsRow_nil _ _ _ _, Below.refl _ _⟩
  · exact ⟨_, _, rfl, hown, hb⟩
theorem own_old {w w' : World} {base : Nat} {v : Value} {n : Nat} {xs : List Value} (h : w.ownsRow base 5 1 v n xs) (hb : Below w.heap.size w w') : w'.ownsRow base 5 1 v n xs :=
  ownsRow_below h fun k hk => hb.block k (h.lt k hk).2
theorem own_grown {w w' : World} {base g : Nat} {v : Value} {n : Nat} {xs : List Value} (h : w.ownsRow base 5 1 v n xs) (hb : w.grownBy w' (some g)) (hg : g < base) : w'.ownsRow base 5 1 v n xs :=
  ownsRow_below h fun k hk => hb.block k (h.lt k hk).2 (fun e => by have := (h.lt k hk).1; cases e; omega)

/-- A row whose first k bytes are turned. -/
def Turned (w wr : World) (q : Option Addr) (bs : List UInt8) (k : Nat) : Prop :=
  (q = none ∧ bs = [] ∧ w = wr) ∨
  ∃ g, q = some ⟨g, 0, none⟩ ∧ (∀ j (hj : j < bs.length), wr.cell? ⟨g, j, none⟩ = some (.int .u8 ((if j < k then 255 - bs[j] else bs[j]).toNat : Int)) ∧ wr.frozen? ⟨g, j, none⟩ = false) ∧ w.grownBy wr (some g)
theorem turned_start {w : World} {base c : Nat} {q : Option Addr} {bs : List UInt8} (h : w.ownsRow base 5 1 (.slice q bs.length c) bs.length (bcells bs)) : Turned w w q bs 0 := by
  have hrow := RowAt.of_own h
  have h' := h
  obtain ⟨h0, ⟨h1, h2⟩ | ⟨g, cap, cur, h1, h2, h3, h4, h5, h6, h7⟩⟩ := h
  · simp only [Value.slice.injEq] at h1
    exact .inl ⟨h1.1, List.length_eq_zero_iff.1 h2, rfl⟩
  · simp only [Value.slice.injEq] at h1
    obtain ⟨rfl, _, rfl⟩ := h1
    refine .inr ⟨g, rfl, fun j hj => ⟨?_, (own_cell h' (j := j) (by omega)).2⟩, ⟨rfl, rfl, rfl, Nat.le_refl _, fun _ _ _ => rfl⟩⟩
    rcases hrow with ⟨h, _⟩ | ⟨x, h, _, hx⟩
    · cases h
    · cases h
      have := hx j hj
      rw [addr_add0] at this
      simpa using this
theorem xor255 (b : UInt8) : bits .xor .u8 (b.toNat : Int) 255 = (((255 : UInt8) - b).toNat : Int) := by
  have h : ∀ n : Fin 256, bits .xor .u8 (n.val : Int) 255 = (((255 : UInt8) - UInt8.ofNat n.val).toNat : Int) := by decide +kernel
  have := h ⟨b.toNat, UInt8.toNat_lt b⟩
  simpa using this
theorem turned_ne (bs : List UInt8) (h : 0 < bs.length) : bs ≠ bs.map (fun b => 255 - b) := by
  intro e
  have e1 : bs[0] = (255 : UInt8) - bs[0] := by
    have : bs[0]? = (bs.map (fun b => 255 - b))[0]? := by rw [← e]
    rw [List.getElem?_map, List.getElem?_eq_getElem h] at this
    simpa using this
  have hn : ∀ n : Fin 256, UInt8.ofNat n.val ≠ (255 : UInt8) - UInt8.ofNat n.val := by decide +kernel
  have h3 := hn ⟨bs[0].toNat, UInt8.toNat_lt _⟩
  rw [UInt8.ofNat_toNat] at h3
  exact h3 e1
theorem turned_row {w wr : World} {q : Option Addr} {bs : List UInt8} (h : Turned w wr q bs bs.length) : RowAt wr q bs.length (bs.map (fun b => 255 - b)) := by
  rcases h with ⟨rfl, rfl, _⟩ | ⟨g, rfl, h, _⟩
  · exact .inl ⟨rfl, rfl, rfl⟩
  · refine .inr ⟨_, rfl, by simp, fun j hj => ?_⟩
    have hj' : j < bs.length := by simpa using hj
    rw [addr_add0, (h j hj').1, if_pos hj']
    simp
theorem turned_step {w wr : World} {g : Nat} {bs : List UInt8} {k : Nat} (hk : k < bs.length) (h : ∀ j (hj : j < bs.length), wr.cell? ⟨g, j, none⟩ = some (.int .u8 ((if j < k then 255 - bs[j] else bs[j]).toNat : Int)) ∧ wr.frozen? ⟨g, j, none⟩ = false) (hg : w.grownBy wr (some g)) (w2 : World)
    (h2 : w2.heap = (wr.setCell ⟨g, k, none⟩ (.int .u8 ((255 - bs[k]).toNat : Int))).heap) (h3 : w2.os = wr.os) (h4 : w2.tape = wr.tape) (h5 : w2.output = wr.output) :
    Turned w w2 (some ⟨g, 0, none⟩) bs (k + 1) := by
  have hc : ∀ a, w2.cell? a = (wr.setCell ⟨g, k, none⟩ (.int .u8 ((255 - bs[k]).toNat : Int))).cell? a := fun a => by unfold World.cell?; rw [h2]
  have hf : ∀ a, w2.frozen? a = (wr.setCell ⟨g, k, none⟩ (.int .u8 ((255 - bs[k]).toNat : Int))).frozen? a := fun a => by unfold World.frozen?; rw [h2]
  refine .inr ⟨g, rfl, fun j hj => ?_, ?_⟩
  · constructor
    · rw [hc]
      by_cases e : j = k
      · subst e
        rw [if_pos (by omega)]
        exact World.cell?_setCell_same wr _ _ (h j hj).1
      · rw [World.cell?_setCell_other _ _ _ _ (fun hh => e (by cases hh; rfl)), (h j hj).1]
        by_cases h2 : j < k
        · rw [if_pos h2, if_pos (by omega)]
        · rw [if_neg h2, if_neg (by omega)]
    · rw [hf, World.frozen?_setCell]
      exact (h j hj).2
  · have := grown_setCells (n := k) [.int .u8 ((255 - bs[k]).toNat : Int)] hg
    exact ⟨h3.trans hg.os, h4.trans hg.tape, h5.trans hg.output, by rw [h2]; exact this.size, fun b h6 h7 => by rw [h2]; exact this.block b h6 h7⟩
end Go.Proofs.Ytnjinknpckkioaa.Fm
