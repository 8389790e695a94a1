/- CountObjects on an error and on maps of values that hold nothing. -/
import Derived.Test.YtehfbmkaojlbeaaGreatCo
import Derived.Maps.RangeWalk
import Derived.Maps.Views
namespace Go.Maps
open Go.MapKept Go.WideShapes
open Go.WideElems (Fit rd rg pl rd_key rd_val rg_of)
variable {H : Type} {P : Program} {k : TypeId} {R : Value → Option (DataW H × List MemPlace)} {w : World} {b r n : Nat} {D : DataW H} {left : Lit → Bool} {cnt : Nat}
/-- How many are still to come, in the reading's words. -/
theorem ranges_count (h : w.ranges P k R b r n D left cnt) : ∃ es, D = .map es ∧ cnt = (es.filter fun p => left p.1).length := by
  obtain ⟨es, clock, since, seen, c0, hb, F, hs, rfl, hr, hold, rfl, hl1, hl2, hsc, hsk⟩ := h
  refine ⟨_, rfl, ?_⟩
  have hp := (sorted_perm (es.toList.map (rg P k R))).filter fun p => left p.1
  rw [hp.length_eq, List.filter_map, List.length_map]
  unfold leftOf
  rw [← Array.length_toList, Array.toList_filter]
  congr 1
  exact List.filter_congr fun x hx => by simp [hl1 x hx]
/-- A step takes just one. -/
theorem next_exact (K : Keyed P k) {w1 : World} {cnt1 : Nat} {kl : Lit} (h : w.ranges P k R b r n D left cnt) (h1 : w1.ranges P k R b r n D (fun z => left z && !z.sameKey kl) cnt1) (hl : left kl = true) : cnt = cnt1 + 1 := by
  obtain ⟨es, e1, e2⟩ := ranges_count h
  obtain ⟨es', e3, e4⟩ := ranges_count h1
  obtain ⟨es2, e5, hpw, _⟩ := h.owns.entries K
  obtain rfl : es = es' := by rw [e1] at e3; injection e3
  obtain rfl : es = es2 := by rw [e1] at e5; injection e5
  have hs := length_strike (k := kl) (es.filter fun p => left p.1) (hpw.filter _)
  have ha : (es.filter fun p => left p.1).any (fun p => p.1.sameKey kl) = true := by
    obtain ⟨es0, clock, since, seen, c0, hb, F, hs, hD, hr, hold, hcn, hl1, hl2, hsc, hsk⟩ := h
    obtain ⟨x, hx, hxk⟩ := hl2 kl hl
    obtain ⟨y, hy⟩ := F.reads x hx
    rw [e1] at hD
    injection hD with hD
    refine List.any_eq_true.2 ⟨rg P k R x, List.mem_filter.2 ⟨by rw [hD]; exact mem_sorted.2 (List.mem_map.2 ⟨x, hx, rfl⟩), by rw [hxk]; exact hl⟩, ?_⟩
    rw [← hxk]
    exact WideAt.sameKey_self (by rw [rg_of hy]; exact K.key (rd_key hy))
  rw [ha, if_pos rfl, List.filter_filter] at hs
  rw [e2, e4, ← hs]
  congr 2
  exact List.filter_congr fun p _ => by simp [Bool.and_comm]
end Go.Maps
namespace Go.Proofs.YtehfbmkaojlbeaaGreat.Co
open Go.ChangeShapes Go.WideShapes Go.ChangeAt Go.RowKit Go.Maps

instance (t : TypeId) : Decidable (LeafT t) := by unfold LeafT; infer_instance
/-- How an element that holds nothing reads: as nothing. -/
def leafR (v : Value) : Option (DataW Unit × List MemPlace) :=
  match v with
  | .iface t _ => if LeafT t then some (.nil, []) else none
  | _ => none
theorem leafR_mk {t : TypeId} (h : LeafT t) (p : Value) : leafR (.iface t p) = some (.nil, []) := by simp [leafR, h]
theorem leafR_inv {v : Value} {y : DataW Unit × List MemPlace} (h : leafR v = some y) : ∃ c : { c : TypeId × Value // LeafT c.1 }, v = .iface c.1.1 c.1.2 := by
  unfold leafR at h
  split at h
  · split at h
    · rename_i ht; exact ⟨⟨(_, _), ht⟩, rfl⟩
    · cases h
  · cases h
theorem keyOf_string_inv {P : Program} {k : TypeId} (hk : P.underlying k = some .string) {key : Value} {kl : Lit} (h : keyOf P k key = some kl) : ∃ x : ByteArray, key = .string x := by
  cases key <;> simp [keyOf, hk, mapKey] at h
  exact ⟨_, rfl⟩
theorem law : Keyed Tryz.prog 9 := string_keyed Tryz.underlying9
set_option maxRecDepth 100000 in
set_option maxHeartbeats 1000000 in
theorem coErr (B n : Nat) (v : Value) (w : World) (hB : w.cell? ⟨B, 0, none⟩ = some v) (hv : Says v n w) (hn : n ≤ 1048577) : Says (.iface 60 (.pointer (some ⟨B, 0, none⟩))) (1 + n) w := by
  have e1 := noArr (.inr (.inr (.inr (.inr rfl)))) (.pointer (some ⟨B, 0, none⟩)) w
  have e2 := noIArr (.inr (.inr (.inr rfl))) (.pointer (some ⟨B, 0, none⟩)) w
  have e3 := noMap (.inr (.inr rfl)) (.pointer (some ⟨B, 0, none⟩)) w
  have e4 := noIMap (.inr rfl) (.pointer (some ⟨B, 0, none⟩)) w
  have e5 := yesErr ⟨B, 0, none⟩ w
  have HV := Lib.hid hv
  clear hv
  unfold Says
  go_enter Tryz.func10, Tryz.ntmps10
  go_wp2_with (fail)
  refine HV.out.mono ?_
  rintro e w2 ⟨rfl, hb⟩
  go_wp2
  go_ret
  exact ⟨by simp, hb⟩
set_option maxRecDepth 100000 in
set_option maxHeartbeats 2000000 in
theorem coMap (B mb n : Nat) (D : DataW Unit) (w : World) (hB : w.cell? ⟨B, 0, none⟩ = some (.map (some mb))) (hown : w.ownsMap Tryz.prog 9 leafR mb n D) (hD : Maps.size D ≤ 1048576) : Says (.iface 54 (.pointer (some ⟨B, 0, none⟩))) (1 + Maps.size D) w := by
  have e1 := noArr (.inr (.inr (.inl rfl))) (.pointer (some ⟨B, 0, none⟩)) w
  have e2 := noIArr (.inr (.inl rfl)) (.pointer (some ⟨B, 0, none⟩)) w
  have e3 := yesMap ⟨B, 0, none⟩ w
  have hbl := hown.lt
  obtain ⟨m, hm⟩ : ∃ m, m = Maps.size D := ⟨_, rfl⟩
  rw [← hm] at hD ⊢
  unfold Says
  go_enter Tryz.func10, Tryz.ntmps10
  go_wp2_with (first
    | (at_range; refine wpList_range_own _ rfl _ 51 rfl 9 53 law Tryz.underlying51 _ mb n _ rfl hown ?_; intro w0 hrg0 hg0 hs0)
    | go_in)
  go_frame
  rw [← hm] at hrg0
  have HR := Lib.hid hrg0
  have HB0 : Hid (Below w.heap.size w w0) := Lib.hid ((Below.refl _ _).grown hg0 (Nat.le_refl _) (fun j hj => by cases hj))
  clear hrg0 hg0 hs0
  go_loopw [2] (fun vc wr => ∃ (left : Lit → Bool) (cnt : Nat), vc = .int .i64 ((1 + (m - cnt) : Nat) : Int) ∧ cnt ≤ m ∧ Hid (wr.ranges Tryz.prog 9 leafR mb w.heap.size n D left cnt) ∧ Hid (Below w.heap.size w wr))
    (fun _ wr => wr.rangeLeft mb w.heap.size)
  case atStart => exact ⟨_, m, by simp, Nat.le_refl _, HR, HB0⟩
  case round =>
    obtain ⟨left, cnt, rfl, hcnt, hrg, hb⟩ := hrel
    go_wp2_with (first
      | (at_next; refine wpList_next_ranges _ rfl _ rfl 9 law leafR Value.string (fun c : { c : TypeId × Value // LeafT c.1 } => Value.iface c.1.1 c.1.2) (fun _ _ h => keyOf_string_inv Tryz.underlying9 h) (fun _ _ h => leafR_inv h) mb w.heap.size n D left cnt rfl hrg.out ?_ ?_)
      | go_in)
    · intro hc0 _
      subst hc0
      go_wp2
      go_ret
      exact ⟨by simp [hm], hb.out⟩
    · intro x t p ht kl y ys w1 cnt1 _ hlk _ _ hrg1 hlt hg1 _ hen
      have hex := Maps.next_exact law hrg.out hrg1 hlk
      have HC := Lib.hid (coLeaf0 t ht p w1)
      have HR1 := Lib.hid hrg1
      have HB1 : Hid (Below w.heap.size w w1) := Lib.hid (hb.out.grown hg1 hb.out.size (fun j hj => by cases hj; exact Nat.le_refl _))
      clear hrg1 hg1 hlk
      go_wp2_with (fail)
      refine HC.out.mono ?_
      rintro e w2 ⟨rfl, rfl⟩
      go_wp2_with (fail)
      go_roundw
      case rel => exact ⟨_, cnt1, by simp; omega, by omega, HR1, HB1⟩
      case measure => rw [HR1.out.left_eq, hrg.out.left_eq]; exact hlt
set_option maxRecDepth 100000 in
set_option maxHeartbeats 2000000 in
theorem coIMap (B mb n : Nat) (D : DataW Unit) (w : World) (hB : w.cell? ⟨B, 0, none⟩ = some (.map (some mb))) (hown : w.ownsMap Tryz.prog 9 leafR mb n D) (hD : Maps.size D ≤ 1048576) : Says (.iface 67 (.pointer (some ⟨B, 0, none⟩))) (1 + Maps.size D) w := by
  have e1 := noArr (.inr (.inr (.inr (.inl rfl)))) (.pointer (some ⟨B, 0, none⟩)) w
  have e2 := noIArr (.inr (.inr (.inl rfl))) (.pointer (some ⟨B, 0, none⟩)) w
  have e3 := noMap (.inr (.inl rfl)) (.pointer (some ⟨B, 0, none⟩)) w
  have e4 := yesIMap ⟨B, 0, none⟩ w
  have hbl := hown.lt
  obtain ⟨m, hm⟩ : ∃ m, m = Maps.size D := ⟨_, rfl⟩
  rw [← hm] at hD ⊢
  unfold Says
  go_enter Tryz.func10, Tryz.ntmps10
  go_wp2_with (first
    | (at_range; refine wpList_range_own _ rfl _ 51 rfl 9 53 law Tryz.underlying51 _ mb n _ rfl hown ?_; intro w0 hrg0 hg0 hs0)
    | go_in)
  go_frame
  rw [← hm] at hrg0
  have HR := Lib.hid hrg0
  have HB0 : Hid (Below w.heap.size w w0) := Lib.hid ((Below.refl _ _).grown hg0 (Nat.le_refl _) (fun j hj => by cases hj))
  clear hrg0 hg0 hs0
  go_loopw [2] (fun vc wr => ∃ (left : Lit → Bool) (cnt : Nat), vc = .int .i64 ((1 + (m - cnt) : Nat) : Int) ∧ cnt ≤ m ∧ Hid (wr.ranges Tryz.prog 9 leafR mb w.heap.size n D left cnt) ∧ Hid (Below w.heap.size w wr))
    (fun _ wr => wr.rangeLeft mb w.heap.size)
  case atStart => exact ⟨_, m, by simp, Nat.le_refl _, HR, HB0⟩
  case round =>
    obtain ⟨left, cnt, rfl, hcnt, hrg, hb⟩ := hrel
    go_wp2_with (first
      | (at_next; refine wpList_next_ranges _ rfl _ rfl 9 law leafR Value.string (fun c : { c : TypeId × Value // LeafT c.1 } => Value.iface c.1.1 c.1.2) (fun _ _ h => keyOf_string_inv Tryz.underlying9 h) (fun _ _ h => leafR_inv h) mb w.heap.size n D left cnt rfl hrg.out ?_ ?_)
      | go_in)
    · intro hc0 _
      subst hc0
      go_wp2
      go_ret
      exact ⟨by simp [hm], hb.out⟩
    · intro x t p ht kl y ys w1 cnt1 _ hlk _ _ hrg1 hlt hg1 _ hen
      have hex := Maps.next_exact law hrg.out hrg1 hlk
      have HC := Lib.hid (coLeaf0 t ht p w1)
      have HR1 := Lib.hid hrg1
      have HB1 : Hid (Below w.heap.size w w1) := Lib.hid (hb.out.grown hg1 hb.out.size (fun j hj => by cases hj; exact Nat.le_refl _))
      clear hrg1 hg1 hlk
      go_wp2_with (fail)
      refine HC.out.mono ?_
      rintro e w2 ⟨rfl, rfl⟩
      go_wp2_with (fail)
      go_roundw
      case rel => exact ⟨_, cnt1, by simp; omega, by omega, HR1, HB1⟩
      case measure => rw [HR1.out.left_eq, hrg.out.left_eq]; exact hlt
end Go.Proofs.YtehfbmkaojlbeaaGreat.Co
