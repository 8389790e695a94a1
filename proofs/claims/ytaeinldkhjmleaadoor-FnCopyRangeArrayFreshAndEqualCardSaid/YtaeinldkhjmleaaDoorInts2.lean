/- Rows of Int objects, each known whole; the Copy of an array. -/
import Derived.Test.YtaeinldkhjmleaaDoorRows
import Derived.Test.YtaeinldkhjmleaaDoorBuf
import Derived.Test.YtaeinldkhjmleaaDoorBlk
import Derived.Test.YtaeinldkhjmleaaDoorFrame
import Derived.LoopTactic
import Derived.Deep.LoopGhost
import Derived.RegionTactic
import Derived.WalkLawsBesides
import Derived.WalkSpells
import Derived.Outline
import Derived.KernelRfl
import Derived.Deep.AppendLies
namespace Go.Proofs.YtaeinldkhjmleaaDoor.Rg
open Go.ChangeShapes Go.WideShapes Go.ChangeAt Go.RowKit Go.Blk

theorem infoO : (Tryd.prog.info? 35).map (fun i => (i.zero, i.size, i.bytes)) = some (some .nilIface, 1, 16) := by kernel_rfl
/-- The interface values of a row of Int objects in the blocks bs. -/
def ifs (bs : List Nat) : List Value := bs.map fun b => Value.iface 50 (.pointer (some ⟨b, 0, none⟩))
theorem ifs_append (a b : List Nat) : ifs (a ++ b) = ifs a ++ ifs b := by simp [ifs]
theorem ifs_length (a : List Nat) : (ifs a).length = a.length := by simp [ifs]
/-- The blocks bs hold Int objects of the values vs. -/
def IntsO (w : World) (bs : List Nat) (vs : List Int) : Prop := bs.length = vs.length ∧ ∀ i (h : i < bs.length) (h' : i < vs.length), Blk w bs[i] 52 [.int .i64 vs[i]]
theorem IntsO.keep {w w' : World} {bs : List Nat} {vs : List Int} (h : IntsO w bs vs) (hk : ∀ b ∈ bs, w'.heap[b]? = w.heap[b]?) : IntsO w' bs vs :=
  ⟨h.1, fun i h1 h2 => (hk bs[i] (List.getElem_mem _)).trans (h.2 i h1 h2)⟩
theorem IntsO.lt {w : World} {bs : List Nat} {vs : List Int} (h : IntsO w bs vs) : ∀ b ∈ bs, b < w.heap.size := by
  intro b hb
  obtain ⟨i, hi, rfl⟩ := List.getElem_of_mem hb
  exact (h.2 i hi (by rw [← h.1]; exact hi)).lt
theorem IntsO.old {w w' : World} {bs : List Nat} {vs : List Int} (h : IntsO w bs vs) (hb : Below w.heap.size w w') : IntsO w' bs vs := h.keep (fun b hm => hb.block b (h.lt b hm))
theorem IntsO.snoc {w : World} {bs : List Nat} {vs : List Int} {b : Nat} {v : Int} (h : IntsO w bs vs) (hc : Blk w b 52 [.int .i64 v]) : IntsO w (bs ++ [b]) (vs ++ [v]) := by
  refine ⟨by simp [h.1], fun i h1 h2 => ?_⟩
  have hl := h.1
  by_cases e : i < bs.length
  · have h3 := h.2 i e (by omega)
    rw [List.getElem_append_left e, List.getElem_append_left (by omega)]
    exact h3
  · have e1 : i = bs.length := by simp at h1; omega
    subst e1
    rw [List.getElem_append_right (Nat.le_refl _), List.getElem_append_right (by omega)]
    simpa [hl] using hc
theorem IntsO.nil (w : World) : IntsO w [] [] := ⟨rfl, fun i h => by simp at h⟩

theorem news_p (w : World) (o : Obj) (v : Value) (e : TypeId) : ∀ j u, [v][j]? = some u → ((w.alloc o).alloc (.cells #[v] e)).cell? ((⟨w.heap.size + 1, 0, none⟩ : Addr).add j) = some u := by
  intro j u hj
  have h := heap_alloc_new (w.alloc o) (.cells #[v] e)
  rw [show (w.alloc o).heap.size = w.heap.size + 1 by simp] at h
  exact World.news_of_block (t := e) (fr := (0, 0)) h j u hj
theorem m_icopy (a : Addr) (w : World) : (method 192 50 (.pointer (some a)) "Copy").run Tryd.prog w = .ok (42, .pointer (some a)) w := by kernel_rfl
theorem iCopy (b : Nat) (v : Int) (w : World) (h : w.cell? ⟨b, 0, none⟩ = some (.int .i64 v)) : Calls Tryd.prog 42 #[.pointer (some ⟨b, 0, none⟩)] w fun e w' => e = .returned (.iface 50 (.pointer (some ⟨w.heap.size, 0, none⟩))) ∧ w.alloc (.cells #[.int .i64 v] 52) = w' := by
  go_enter Tryd.func42, Tryd.ntmps42
  go_wp2
  go_ret
  exact ⟨rfl, rfl⟩

/-- A new array of Int objects. -/
def NewArr (w : World) (vs : List Int) (e : Ending) (w' : World) : Prop :=
  ∃ B q cap cs, e = .returned (.iface 32 (.pointer (some ⟨B, 0, none⟩))) ∧ w.heap.size ≤ B ∧ B < w'.heap.size ∧ Blk w' B 33 [.slice q vs.length cap] ∧ w'.ownsRow w.heap.size 35 1 (.slice q vs.length cap) vs.length (ifs cs) ∧ IntsO w' cs vs ∧ (∀ c ∈ cs, w.heap.size ≤ c) ∧ Below w.heap.size w w'

set_option maxRecDepth 100000 in
set_option maxHeartbeats 2000000 in
theorem arrCopy (B c : Nat) (q0 : Option Addr) (bs : List Nat) (vs : List Int) (w : World) (hB : w.cell? ⟨B, 0, none⟩ = some (.slice q0 vs.length c)) (hrow : ∀ j (hj : j < bs.length), ∃ G, q0 = some ⟨G, 0, none⟩ ∧ w.cell? ⟨G, j, none⟩ = some (.iface 50 (.pointer (some ⟨bs[j], 0, none⟩)))) (hI : IntsO w bs vs) (hl : vs.length ≤ 1048576) :
    Calls Tryd.prog 35 #[.pointer (some ⟨B, 0, none⟩)] w (NewArr w vs) := by
  have HROW := Lib.hid hrow
  have HINT := Lib.hid hI
  have hm := m_icopy
  obtain ⟨i3, hi, hz0, hz1, hz2⟩ := info_parts infoO
  have HI := Lib.hid hi
  have HI0 := Lib.hid hz0
  have HI1 := Lib.hid hz1
  have HI2 := Lib.hid hz2
  clear hrow hI hi hz0 hz1 hz2
  go_enter Tryd.func35, Tryd.ntmps35
  go_wp2
  go_loopw [3, 11] (fun v iv wr => ∃ (k : Nat) (cs : List Nat), k ≤ vs.length ∧ iv = .int .i64 k ∧ Hid (wr.ownsRow w.heap.size 35 1 v k (ifs cs) ∧ IntsO wr cs (vs.take k) ∧ (∀ x ∈ cs, w.heap.size ≤ x ∧ v.ownBlock ≠ some x) ∧ Below w.heap.size w wr)) (fun _ iv _ => vs.length - (intOf iv).toNat)
  case atStart => exact ⟨0, [], Nat.zero_le _, rfl, Lib.hid ⟨World.ownsRow_nil _ _ _ _, IntsO.nil _, (fun b hb => by simp at hb), Below.refl _ _⟩⟩
  case round =>
    obtain ⟨k, cs, hk, rfl, HS⟩ := hrel
    obtain ⟨wo, hwo⟩ : ∃ wo : World, wo = wr := ⟨_, rfl⟩
    subst hwo
    have hwb := HS.out.2.2.2.size
    by_cases hlt : k < vs.length
    · have hkb : k < bs.length := by rw [HINT.out.1]; exact hlt
      obtain ⟨G, hq0, hc0⟩ := HROW.out k hkb
      subst hq0
      have hcx := (HS.out.2.2.2.cell (World.block_lt_of_cell? w _ hc0)).trans hc0
      have hi0 : w.cell? ⟨bs[k], 0, none⟩ = some (.int .i64 vs[k]) := (HINT.out.2 k hkb hlt).cell? 0
      have hci := (HS.out.2.2.2.cell (World.block_lt_of_cell? w _ hi0)).trans hi0
      have HV := Lib.hid (List.take_succ_eq_append_getElem hlt)
      clear hc0 hi0
      generalize bs[k] = b at *
      generalize vs[k] = x at *
      have HCP := Lib.hid (iCopy b x wo hci)
      clear hci
      go_wp2_with (first | ((with_reducible refine HCP.out.mono ?_); rintro e w2 ⟨rfl, rfl⟩) | (at_builtin; refine wpList_append_lies _ rfl _ _ 25 rfl w.heap.size 35 i3 .nilIface 1 16 Tryd.underlying25 HI.out HI0.out HI1.out HI2.out rfl (by decide) u3 k (ifs cs) rfl ((HS.out.1.alloc _).alloc _) ⟨wo.heap.size + 1, 0, none⟩ 1 1 [.iface 50 (.pointer (some ⟨wo.heap.size, 0, none⟩))] rfl rfl (news_p _ _ _ _) (by simp [Value.oneCell']) (by decide) (by unfold maxLen; omega) (by omega) (by simp; omega) (wo.heap.size + 2) (by simp) ?_; intro g5 cap5 w5 hown5 hgrow5 hat5 hlt5))
      go_roundw
      case rel =>
        obtain ⟨a1, a2, a3, a4⟩ := HS.out
        have hbW : Below wo.heap.size wo ((wo.alloc (.cells #[.int .i64 x] 52)).alloc (.cells #[.iface 50 (.pointer (some ⟨wo.heap.size, 0, none⟩))] 35)) := ((Below.refl _ _).alloc (Nat.le_refl _) _).alloc (by simp) _
        have hrow : ∀ y, u3.ownBlock = some y → w.heap.size ≤ y ∧ y < wo.heap.size := a1.lt
        have hk5 : ∀ y, y < wo.heap.size → u3.ownBlock ≠ some y → w5.heap[y]? = wo.heap[y]? := fun y hy hne => (hgrow5.block y (by simp; omega) (fun e => hne e.symm)).trans (hbW.block y hy)
        refine ⟨k + 1, cs ++ [wo.heap.size], hlt, by go_num, Lib.hid ⟨by rw [ifs_append]; exact hown5, ?_, ?_, ?_⟩⟩
        · rw [HV.out]
          refine IntsO.snoc (a2.keep (fun y hy => hk5 y (a2.lt y hy) (a3 y hy).2)) ?_
          have h1 : w5.heap[wo.heap.size]? = ((wo.alloc (.cells #[.int .i64 x] 52)).alloc (.cells #[.iface 50 (.pointer (some ⟨wo.heap.size, 0, none⟩))] 35)).heap[wo.heap.size]? := hgrow5.block _ (by simp; omega) (fun e => by have := (hrow _ e.symm).2; omega)
          have h2 := (blk_alloc wo [.int .i64 x] 52).old ((Below.refl _ _).alloc (Nat.le_refl _) (.cells #[.iface 50 (.pointer (some ⟨wo.heap.size, 0, none⟩))] 35))
          exact h1.trans h2
        · intro y hy
          have hfr : y < wo.heap.size + 1 ∧ w.heap.size ≤ y ∧ u3.ownBlock ≠ some y := by
            rcases List.mem_append.1 hy with hy | hy
            · have := a2.lt y hy; exact ⟨by omega, a3 y hy⟩
            · simp only [List.mem_singleton] at hy
              subst hy
              exact ⟨by omega, hwb, fun e => by have := (hrow _ e).2; omega⟩
          refine ⟨hfr.2.1, fun e => ?_⟩
          have e' : g5 = y := by simpa [Value.ownBlock] using e
          rcases hat5 with h | h
          · exact hfr.2.2 (by rw [h, e'])
          · have := hfr.1; omega
        · exact (((a4.alloc hwb _).alloc (by simp; omega) _).grown hgrow5 (by simp; omega) (fun y hy => (hrow y hy).1))
      case measure => simp [intOf]; omega
    · obtain rfl : k = vs.length := by omega
      obtain ⟨q, cap, hq, _, _⟩ := Go.Fmt.ownsRow_form HS.out.1
      subst hq
      go_wp2
      go_ret
      obtain ⟨a1, a2, a3, a4⟩ := HS.out
      rw [List.take_length] at a2
      have hb2 : Below wo.heap.size wo (wo.alloc (.cells #[.slice q vs.length cap] 33)) := (Below.refl _ _).alloc (Nat.le_refl _) _
      exact ⟨wo.heap.size, q, cap, cs, rfl, hwb, by simp, blk_alloc wo [.slice q vs.length cap] 33, a1.alloc _, a2.old hb2, fun c hc => (a3 c hc).1, a4.alloc hwb _⟩
end Go.Proofs.YtaeinldkhjmleaaDoor.Rg
