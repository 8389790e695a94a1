/- Rows of Int objects: intObjects, and the Copy of an immutable array. -/
import Derived.Test.YtaeinldkhjmleaaFmtRows
import Derived.Test.YtaeinldkhjmleaaFmtBuf
import Derived.Test.YtaeinldkhjmleaaFmtBlk
import Derived.Test.YtaeinldkhjmleaaFmtFrame
import Derived.LoopTactic
import Derived.Deep.LoopGhost
import Derived.RegionTactic
import Derived.WalkLawsBesides
import Derived.WalkSpells
import Derived.Outline
import Derived.KernelRfl
import Derived.Deep.AppendLies
namespace Go.Proofs.YtaeinldkhjmleaaFmt.Ob
open Go.ChangeShapes Go.WideShapes Go.ChangeAt Go.RowKit Go.Blk

theorem infoO : (Tryf.prog.info? 37).map (fun i => (i.zero, i.size, i.bytes)) = some (some .nilIface, 1, 16) := by kernel_rfl
/-- The interface values of a row of Int objects in the blocks bs. -/
def ifs (bs : List Nat) : List Value := bs.map fun b => Value.iface 44 (.pointer (some ⟨b, 0, none⟩))
theorem ifs_append (a b : List Nat) : ifs (a ++ b) = ifs a ++ ifs b := by simp [ifs]
theorem ifs_length (a : List Nat) : (ifs a).length = a.length := by simp [ifs]
/-- The blocks bs hold Int objects of the values vs. -/
def IntsO (w : World) (bs : List Nat) (vs : List Int) : Prop := bs.length = vs.length ∧ ∀ i (h : i < bs.length) (h' : i < vs.length), w.cell? ⟨bs[i], 0, none⟩ = some (.int .i64 vs[i])
theorem IntsO.keep {w w' : World} {bs : List Nat} {vs : List Int} (h : IntsO w bs vs) (hk : ∀ b ∈ bs, w'.heap[b]? = w.heap[b]?) : IntsO w' bs vs :=
  ⟨h.1, fun i h1 h2 => (World.cell?_of_block (a := ⟨bs[i], 0, none⟩) (hk bs[i] (List.getElem_mem _))).trans (h.2 i h1 h2)⟩
theorem IntsO.lt {w : World} {bs : List Nat} {vs : List Int} (h : IntsO w bs vs) : ∀ b ∈ bs, b < w.heap.size := by
  intro b hb
  obtain ⟨i, hi, rfl⟩ := List.getElem_of_mem hb
  exact World.block_lt_of_cell? w _ (h.2 i hi (by rw [← h.1]; exact hi))
theorem IntsO.old {w w' : World} {bs : List Nat} {vs : List Int} (h : IntsO w bs vs) (hb : Below w.heap.size w w') : IntsO w' bs vs := h.keep (fun b hm => hb.block b (h.lt b hm))
theorem IntsO.snoc {w : World} {bs : List Nat} {vs : List Int} {b : Nat} {v : Int} (h : IntsO w bs vs) (hc : w.cell? ⟨b, 0, none⟩ = some (.int .i64 v)) : IntsO w (bs ++ [b]) (vs ++ [v]) := by
  refine ⟨by simp [h.1], fun i h1 h2 => ?_⟩
  have hl := h.1
  by_cases e : i < bs.length
  · have h3 := h.2 i e (by omega)
    rw [List.getElem_append_left e, List.getElem_append_left (by omega)]
    exact h3
  · have e1 : i = bs.length := by simp at h1; omega
    subst e1
    rw [List.getElem_append_right (Nat.le_refl _), List.getElem_append_right (by omega)]
    simp [hc, hl]
theorem IntsO.nil (w : World) : IntsO w [] [] := ⟨rfl, fun i h => by simp at h⟩

/-- A slice of int64s that came in. -/
def RowI (w : World) (p : Option Addr) (xs : List Int) : Prop := (p = none ∧ xs = []) ∨ ∃ x, p = some x ∧ ∀ j (hj : j < xs.length), w.cell? (x.add j) = some (.int .i64 xs[j])
theorem rowI_of {w : World} {p : Option Addr} {len cap : Nat} {zs : List Int} (h : LawFrame.IsRow .i64 8 w p len cap zs) : ∃ xs, RowI w p xs ∧ xs.length = len ∧ (p = none → cap = 0) ∧ len ≤ cap ∧ len * 8 ≤ 140737488351232 := by
  rcases h with ⟨h1, h2, h3, h4⟩ | ⟨x, h1, h2, h3, h4, h5, h6⟩
  · exact ⟨[], .inl ⟨h1, rfl⟩, by simp [h2], fun _ => h3, by omega, by omega⟩
  · refine ⟨zs.take len, .inr ⟨x, h1, fun j hj => ?_⟩, by simp; omega, (fun e => by rw [h1] at e; cases e), h2, by omega⟩
    have hj' : j < zs.length := by simp at hj; omega
    rw [h5 j hj', List.getD_eq_getElem?_getD, List.getElem?_eq_getElem hj', List.getElem_take]
    rfl
theorem RowI.old {w w' : World} {p : Option Addr} {xs : List Int} (h : RowI w p xs) (hb : Below w.heap.size w w') : RowI w' p xs := by
  rcases h with h | ⟨x, h1, h2⟩
  · exact .inl h
  · exact .inr ⟨x, h1, fun j hj => (hb.cell (World.block_lt_of_cell? w _ (h2 j hj))).trans (h2 j hj)⟩

theorem news_p (w : World) (o : Obj) (v : Value) (e : TypeId) : ∀ j u, [v][j]? = some u → ((w.alloc o).alloc (.cells #[v] e)).cell? ((⟨w.heap.size + 1, 0, none⟩ : Addr).add j) = some u := by
  intro j u hj
  have h := heap_alloc_new (w.alloc o) (.cells #[v] e)
  rw [show (w.alloc o).heap.size = w.heap.size + 1 by simp] at h
  exact World.news_of_block (t := e) (fr := (0, 0)) h j u hj
/-- A new row of Int objects. -/
def NewRow (w : World) (vs : List Int) (e : Ending) (w' : World) : Prop :=
  ∃ G bs, e = .returned (.slice (some ⟨G, 0, none⟩) vs.length vs.length) ∧ Blk w' G 37 (ifs bs) ∧ IntsO w' bs vs ∧ w.heap.size ≤ G ∧ (∀ b ∈ bs, w.heap.size ≤ b ∧ b ≠ G) ∧ Below w.heap.size w w'

set_option maxRecDepth 100000 in
set_option maxHeartbeats 2000000 in
theorem intObjects (p : Option Addr) (cap : Nat) (xs : List Int) (w : World) (h : RowI w p xs) (hl : xs.length ≤ 1048576) : Calls Tryf.prog 6 #[.slice p xs.length cap] w (NewRow w xs) := by
  have HI := Lib.hid infoO
  have HR := Lib.hid h
  clear h
  go_enter Tryf.func6, Tryf.ntmps6
  go_wp2_with ((at_make; refine make_blk rfl _ 25 rfl 37 Tryf.underlying25 .nilIface 16 HI.out _ xs.length rfl rfl (by omega) (by omega) rfl ?_; intro w1 hblk1 hb1))
  have HB1 := Lib.hid hblk1
  clear hblk1
  go_loopw [4] (fun iv wr => ∃ (k : Nat) (bs : List Nat), k ≤ xs.length ∧ iv = .int .i64 k ∧ Hid (Blk wr w.heap.size 37 (ifs bs ++ List.replicate (xs.length - k) .nilIface) ∧ IntsO wr bs (xs.take k) ∧ (∀ b ∈ bs, w.heap.size ≤ b ∧ b ≠ w.heap.size) ∧ Below w.heap.size w wr)) (fun iv _ => xs.length - (intOf iv).toNat)
  case atStart => exact ⟨0, [], Nat.zero_le _, rfl, Lib.hid ⟨HB1.out, IntsO.nil _, (fun b hb => by simp at hb), hb1⟩⟩
  case round =>
    obtain ⟨k, bs, hk, rfl, HS⟩ := hrel
    obtain ⟨wo, hwo⟩ : ∃ wo : World, wo = wr := ⟨_, rfl⟩
    subst hwo
    have hlen : bs.length = k := by have := HS.out.2.1.1; simp at this; omega
    have hGw := HS.out.1.lt
    have HLEN := Lib.hid hlen
    clear hlen
    by_cases hlt : k < xs.length
    · rcases HR.out with ⟨_, h0⟩ | ⟨x, hpx, hx⟩
      · rw [h0] at hlt; simp at hlt
      subst hpx
      have hc0 := hx k hlt
      have hcx := (HS.out.2.2.2.cell (World.block_lt_of_cell? w _ hc0)).trans hc0
      have hxb : (x.add k).block < wo.heap.size := Nat.lt_of_lt_of_le (World.block_lt_of_cell? w _ hc0) HS.out.2.2.2.size
      have q0 : wo.cell? ⟨w.heap.size, k, none⟩ = some .nilIface := by
        rw [HS.out.1.cell?, List.getElem?_append_right (by rw [ifs_length, HLEN.out]; omega), List.getElem?_replicate, if_pos (by rw [ifs_length, HLEN.out]; omega)]
      have f0 := HS.out.1.frz k
      have HV := Lib.hid (List.take_succ_eq_append_getElem hlt)
      clear hx hc0
      generalize xs[k] = v at *
      go_wp2
      go_roundw
      case rel =>
        refine ⟨k + 1, bs ++ [wo.heap.size], hlt, by go_num, Lib.hid ?_⟩
        obtain ⟨a1, a2, a3, a4⟩ := HS.out
        have hsz : (wo.setCell ⟨w.heap.size, k, none⟩ (.iface 44 (.pointer (some ⟨wo.heap.size, 0, none⟩)))).heap.size = wo.heap.size := by simp
        refine ⟨?_, ?_, ?_, (a4.setCell (Nat.le_refl _) _).alloc (by rw [hsz]; exact a4.size) _⟩
        · have h1 := (a1.set k (.iface 44 (.pointer (some ⟨wo.heap.size, 0, none⟩)))).old ((Below.refl _ _).alloc (Nat.le_refl _) (.cells #[.int .i64 v] 46))
          have e1 : xs.length - k = (xs.length - (k + 1)) + 1 := by omega
          rw [e1, List.replicate_succ, set_at' (by rw [ifs_length, HLEN.out])] at h1
          rw [ifs_append, List.append_assoc]
          exact h1
        · rw [HV.out]
          refine IntsO.snoc (a2.keep (fun b hb => ?_)) ?_
          · rw [Below.heap_alloc _ _ b (by rw [hsz]; exact a2.lt b hb), heap_setCell_other _ _ _ _ (a3 b hb).2]
          · have h2 := (blk_alloc (wo.setCell ⟨w.heap.size, k, none⟩ (.iface 44 (.pointer (some ⟨wo.heap.size, 0, none⟩)))) [.int .i64 v] 46).cell? 0
            rw [hsz] at h2
            exact h2
        · intro b hb
          rcases List.mem_append.1 hb with hb | hb
          · exact a3 b hb
          · simp only [List.mem_singleton] at hb
            omega
      case measure => simp [intOf]; omega
    · obtain rfl : k = xs.length := by omega
      go_wp2
      go_ret
      refine ⟨w.heap.size, bs, rfl, ?_, ?_, Nat.le_refl _, HS.out.2.2.1, HS.out.2.2.2⟩
      · have := HS.out.1; simpa using this
      · have := HS.out.2.1; rwa [List.take_length] at this

theorem m_icopy (a : Addr) (w : World) : (method 216 44 (.pointer (some a)) "Copy").run Tryf.prog w = .ok (58, .pointer (some a)) w := by kernel_rfl
theorem iCopy (b : Nat) (v : Int) (w : World) (h : w.cell? ⟨b, 0, none⟩ = some (.int .i64 v)) : Calls Tryf.prog 58 #[.pointer (some ⟨b, 0, none⟩)] w fun e w' => e = .returned (.iface 44 (.pointer (some ⟨w.heap.size, 0, none⟩))) ∧ w.alloc (.cells #[.int .i64 v] 46) = w' := by
  go_enter Tryf.func58, Tryf.ntmps58
  go_wp2
  go_ret
  exact ⟨rfl, rfl⟩

/-- A new array of Int objects. -/
def NewArr (w : World) (vs : List Int) (e : Ending) (w' : World) : Prop :=
  ∃ B q cap cs, e = .returned (.iface 34 (.pointer (some ⟨B, 0, none⟩))) ∧ w.heap.size ≤ B ∧ B < w'.heap.size ∧ w'.cell? ⟨B, 0, none⟩ = some (.slice q vs.length cap) ∧ w'.ownsRow w.heap.size 37 1 (.slice q vs.length cap) vs.length (ifs cs) ∧ IntsO w' cs vs ∧ (∀ c ∈ cs, w.heap.size ≤ c) ∧ Below w.heap.size w w'

set_option maxRecDepth 100000 in
set_option maxHeartbeats 2000000 in
theorem arrCopy (B G c : Nat) (bs : List Nat) (vs : List Int) (w : World) (hB : w.cell? ⟨B, 0, none⟩ = some (.slice (some ⟨G, 0, none⟩) vs.length c)) (hrow : ∀ j (hj : j < bs.length), w.cell? ⟨G, j, none⟩ = some (.iface 44 (.pointer (some ⟨bs[j], 0, none⟩)))) (hI : IntsO w bs vs) (hl : vs.length ≤ 1048576) :
    Calls Tryf.prog 11 #[.pointer (some ⟨B, 0, none⟩)] w (NewArr w vs) := by
  have HROW := Lib.hid hrow
  have HINT := Lib.hid hI
  have hm := m_icopy
  obtain ⟨i3, hi, hz0, hz1, hz2⟩ := info_parts infoO
  have HI := Lib.hid hi
  have HI0 := Lib.hid hz0
  have HI1 := Lib.hid hz1
  have HI2 := Lib.hid hz2
  clear hrow hI hi hz0 hz1 hz2
  go_enter Tryf.func11, Tryf.ntmps11
  go_wp2
  go_loopw [3, 11] (fun v iv wr => ∃ (k : Nat) (cs : List Nat), k ≤ vs.length ∧ iv = .int .i64 k ∧ Hid (wr.ownsRow w.heap.size 37 1 v k (ifs cs) ∧ IntsO wr cs (vs.take k) ∧ (∀ x ∈ cs, w.heap.size ≤ x ∧ v.ownBlock ≠ some x) ∧ Below w.heap.size w wr)) (fun _ iv _ => vs.length - (intOf iv).toNat)
  case atStart => exact ⟨0, [], Nat.zero_le _, rfl, Lib.hid ⟨World.ownsRow_nil _ _ _ _, IntsO.nil _, (fun b hb => by simp at hb), Below.refl _ _⟩⟩
  case round =>
    obtain ⟨k, cs, hk, rfl, HS⟩ := hrel
    obtain ⟨wo, hwo⟩ : ∃ wo : World, wo = wr := ⟨_, rfl⟩
    subst hwo
    have hwb := HS.out.2.2.2.size
    by_cases hlt : k < vs.length
    · have hkb : k < bs.length := by rw [HINT.out.1]; exact hlt
      have hc0 := HROW.out k hkb
      have hcx := (HS.out.2.2.2.cell (World.block_lt_of_cell? w _ hc0)).trans hc0
      have hi0 := HINT.out.2 k hkb hlt
      have hci := (HS.out.2.2.2.cell (World.block_lt_of_cell? w _ hi0)).trans hi0
      have HV := Lib.hid (List.take_succ_eq_append_getElem hlt)
      clear hc0 hi0
      generalize bs[k] = b at *
      generalize vs[k] = x at *
      have HCP := Lib.hid (iCopy b x wo hci)
      clear hci
      go_wp2_with (first | ((with_reducible refine HCP.out.mono ?_); rintro e w2 ⟨rfl, rfl⟩) | (at_builtin; refine wpList_append_lies _ rfl _ _ 25 rfl w.heap.size 37 i3 .nilIface 1 16 Tryf.underlying25 HI.out HI0.out HI1.out HI2.out rfl (by decide) u3 k (ifs cs) rfl ((HS.out.1.alloc _).alloc _) ⟨wo.heap.size + 1, 0, none⟩ 1 1 [.iface 44 (.pointer (some ⟨wo.heap.size, 0, none⟩))] rfl rfl (news_p _ _ _ _) (by simp [Value.oneCell']) (by decide) (by unfold maxLen; omega) (by omega) (by simp; omega) (wo.heap.size + 2) (by simp) ?_; intro g5 cap5 w5 hown5 hgrow5 hat5 hlt5))
      go_roundw
      case rel =>
        obtain ⟨a1, a2, a3, a4⟩ := HS.out
        have hbW : Below wo.heap.size wo ((wo.alloc (.cells #[.int .i64 x] 46)).alloc (.cells #[.iface 44 (.pointer (some ⟨wo.heap.size, 0, none⟩))] 37)) := ((Below.refl _ _).alloc (Nat.le_refl _) _).alloc (by simp) _
        have hrow : ∀ y, u3.ownBlock = some y → w.heap.size ≤ y ∧ y < wo.heap.size := a1.lt
        have hk5 : ∀ y, y < wo.heap.size → u3.ownBlock ≠ some y → w5.heap[y]? = wo.heap[y]? := fun y hy hne => (hgrow5.block y (by simp; omega) (fun e => hne e.symm)).trans (hbW.block y hy)
        refine ⟨k + 1, cs ++ [wo.heap.size], hlt, by go_num, Lib.hid ⟨by rw [ifs_append]; exact hown5, ?_, ?_, ?_⟩⟩
        · rw [HV.out]
          refine IntsO.snoc (a2.keep (fun y hy => hk5 y (a2.lt y hy) (a3 y hy).2)) ?_
          have h1 : w5.heap[wo.heap.size]? = ((wo.alloc (.cells #[.int .i64 x] 46)).alloc (.cells #[.iface 44 (.pointer (some ⟨wo.heap.size, 0, none⟩))] 37)).heap[wo.heap.size]? := hgrow5.block _ (by simp; omega) (fun e => by have := (hrow _ e.symm).2; omega)
          have h2 := ((blk_alloc wo [.int .i64 x] 46).old ((Below.refl _ _).alloc (Nat.le_refl _) (.cells #[.iface 44 (.pointer (some ⟨wo.heap.size, 0, none⟩))] 37))).cell? 0
          exact (World.cell?_of_block (a := ⟨wo.heap.size, 0, none⟩) h1).trans h2
        · intro y hy
          have hfr : y < wo.heap.size + 1 ∧ w.heap.size ≤ y ∧ u3.ownBlock ≠ some y := by
            rcases List.mem_append.1 hy with hy | hy
            · have := a2.lt y hy; exact ⟨by omega, a3 y hy⟩
            · simp only [List.mem_singleton] at hy
              subst hy
              exact ⟨by omega, hwb, fun e => by have := (hrow _ e).2; omega⟩
          refine ⟨hfr.2.1, fun e => ?_⟩
          have e' : g5 = y := by simpa [Value.ownBlock] using e
          rcases hat5 with h | h
          · exact hfr.2.2 (by rw [h, e'])
          · have := hfr.1; omega
        · exact (((a4.alloc hwb _).alloc (by simp; omega) _).grown hgrow5 (by simp; omega) (fun y hy => (hrow y hy).1))
      case measure => simp [intOf]; omega
    · obtain rfl : k = vs.length := by omega
      obtain ⟨q, cap, hq, _, _⟩ := Go.Fmt.ownsRow_form HS.out.1
      subst hq
      go_wp2
      go_ret
      obtain ⟨a1, a2, a3, a4⟩ := HS.out
      rw [List.take_length] at a2
      have hb2 : Below wo.heap.size wo (wo.alloc (.cells #[.slice q vs.length cap] 35)) := (Below.refl _ _).alloc (Nat.le_refl _) _
      exact ⟨wo.heap.size, q, cap, cs, rfl, hwb, by simp, (blk_alloc wo [.slice q vs.length cap] 35).cell? 0, a1.alloc _, a2.old hb2, fun c hc => (a3 c hc).1, a4.alloc hwb _⟩
end Go.Proofs.YtaeinldkhjmleaaFmt.Ob
