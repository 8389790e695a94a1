/- strconv.FormatInt at base 10, whatever the table uint64pow10 holds: its text is a function of the table and the number. -/
import Derived.Test.YtaeinldkhjmleaaFmtFb
import Derived.Test.YtaeinldkhjmleaaFmtShelf
import Derived.Lib.Hide
import Derived.WalkSpells
import Derived.Lib.AppendIntMem
import Derived.Lib.ItoaMem
import Derived.Laws.IdiomStrings
import Derived.Below
namespace Go.Proofs.YtaeinldkhjmleaaFmt.Fi
open Go.RowKit Go.Sort Go.Lib
/-- The table holds the numbers T. -/
def Tab (T : Nat → Int) (w : World) : Prop := ∀ j, j < 20 → w.cell? ⟨3, j, none⟩ = some (.int .u64 (T j))
/-- How many digits numDigits counts. -/
def nd (T : Nat → Int) (u : Nat) : Nat := l10 (Lib.bitLen u) + (if T (l10 (Lib.bitLen u)) ≤ (u : Int) then 1 else 0)
theorem l10_lt {x : Nat} (h : x ≤ 64) : l10 x < 20 := by unfold l10; omega
theorem nd_le {T : Nat → Int} {u : Nat} (h : u < 18446744073709551616) : nd T u ≤ 20 := by
  have := l10_lt (Lib.bitLen_le u 64 (Nat.le_refl _) h)
  unfold nd
  split <;> omega
set_option maxRecDepth 100000 in
theorem numDigits (T : Nat → Int) (u : Nat) (hu : u < 18446744073709551616) (w : World) (hT : Tab T w) :
    Calls Tryf.prog 45 #[.int .u64 u] w fun e w' => e = .returned (.int .i64 (nd T u)) ∧ w' = w := by
  have hL : Lib.bitLen u ≤ 64 := Lib.bitLen_le u 64 (Nat.le_refl _) hu
  have hcell := hT (l10 (Lib.bitLen u)) (l10_lt hL)
  have h20 := l10_lt hL
  have hnd : Hid (nd T u = l10 (Lib.bitLen u) + (if T (l10 (Lib.bitLen u)) ≤ (u : Int) then 1 else 0)) := Lib.hid rfl
  have hto : ((u : Int)).toNat = u := by omega
  generalize hq : l10 (Lib.bitLen u) = q at hnd hcell h20
  generalize hTq : T q = tq at hnd hcell
  clear hT
  go_enter Tryf.func45, Tryf.ntmps45
  by_cases hb : tq ≤ (u : Int)
  · rw [if_pos hb] at hnd
    go_wp2_with (first
      | (go_at_call 49; refine (Tryf.bits_Len64 _ _ (by omega) (by omega)).mono ?_; rintro e w' ⟨rfl, rfl⟩)
      | (go_at_call 48; refine (Tryf.internal_strconv_log10Pow2 _ (by first | exact hL | (rw [hto]; exact hL)) _).mono ?_; rintro e w' ⟨rfl, rfl⟩)
      | (go_at_call 50; refine (Tryf.internal_strconv_bool2_int _ _).mono ?_; rintro e w' ⟨rfl, rfl⟩))
    go_ret
    exact ⟨by rw [hnd.out]; simp, rfl⟩
  · rw [if_neg hb] at hnd
    go_wp2_with (first
      | (go_at_call 49; refine (Tryf.bits_Len64 _ _ (by omega) (by omega)).mono ?_; rintro e w' ⟨rfl, rfl⟩)
      | (go_at_call 48; refine (Tryf.internal_strconv_log10Pow2 _ (by first | exact hL | (rw [hto]; exact hL)) _).mono ?_; rintro e w' ⟨rfl, rfl⟩)
      | (go_at_call 50; refine (Tryf.internal_strconv_bool2_int _ _).mono ?_; rintro e w' ⟨rfl, rfl⟩))
    go_ret
    exact ⟨by rw [hnd.out]; simp, rfl⟩
/-- The digits as they are laid. -/
def digs (T : Nat → Int) (u : Nat) : Array UInt8 := laid u (Array.replicate (nd T u) 0)
theorem digs_size (T : Nat → Int) (u : Nat) : (digs T u).size = nd T u := by rw [digs, laid_size, Array.size_replicate]
/-- The text of a number. -/
def txt (T : Nat → Int) (n : Int) : ByteArray :=
  if 0 ≤ n ∧ n < 100 then ⟨(Lib.decDigits n.toNat).toArray⟩ else if n < 0 then ⟨(45 :: (digs T n.natAbs).toList).toArray⟩ else ⟨(digs T n.natAbs).toList.toArray⟩
theorem Tab.alloc {T : Nat → Int} {w : World} (h : Tab T w) (o : Obj) : Tab T (w.alloc o) := fun j hj => ((Below.refl w.heap.size w).alloc (Nat.le_refl _) o).cell (p := ⟨3, j, none⟩) (World.block_lt_of_cell? w _ (h j hj)) |>.trans (h j hj)
theorem Tab.old {T : Nat → Int} {w w' : World} (h : Tab T w) (hb : Below w.heap.size w w') : Tab T w' := fun j hj => (hb.cell (p := ⟨3, j, none⟩) (World.block_lt_of_cell? w _ (h j hj))).trans (h j hj)
/-- What FormatInt gives. -/
def Says (T : Nat → Int) (n : Int) (w : World) (e : Ending) (w' : World) : Prop := e = .returned (.string (txt T n)) ∧ Below w.heap.size w w'
set_option maxRecDepth 100000 in
set_option maxHeartbeats 4000000 in
theorem formatInt (T : Nat → Int) (n : Int) (w : World) (h0 : -9223372036854775808 ≤ n) (h1 : n ≤ 9223372036854775807) (hT : Tab T w) :
    Calls Tryf.prog 43 #[.int .i64 n, .int .i64 10] w (Says T n w) := by
  have mixed : Tryf.prog.follows Departure.mixedOrders = true := by kernel_rfl
  by_cases hs : 0 ≤ n ∧ n < 100
  · obtain ⟨i, rfl⟩ : ∃ i : Nat, n = i := ⟨n.toNat, by omega⟩
    have hi : i < 100 := by omega
    have htx : Hid (txt T i = ⟨(Lib.decDigits i).toArray⟩) := Lib.hid (by unfold txt; rw [if_pos hs]; rfl)
    clear hT
    go_enter Tryf.func43, Tryf.ntmps43
    go_wp2_with (go_at_call 44; refine (Tryf.internal_strconv_small i hi _).mono ?_; rintro e w' ⟨rfl, rfl⟩)
    go_ret
    exact ⟨by rw [htx.out]; rfl, Below.refl _ _⟩
  · by_cases hneg : n < 0
    · obtain ⟨u, rfl⟩ : ∃ u : Nat, n = -(u : Int) := ⟨n.natAbs, by omega⟩
      have hu1 : 1 ≤ u := by omega
      have hu64 : u < 18446744073709551616 := by omega
      have htx : Hid (txt T (-(u : Int)) = ⟨(45 :: (digs T u).toList).toArray⟩) := Lib.hid (by unfold txt; rw [if_neg hs, if_pos hneg, show (-(u : Int)).natAbs = u by omega])
      have hwr : IntKind.u64.wrap (-IntKind.u64.wrap (-(u : Int))) = (u : Int) := by rw [IntKind.wrap_u64, IntKind.wrap_u64]; omega
      have hnd20 : nd T u ≤ 20 := nd_le hu64
      have HND := Lib.hid (numDigits T u hu64 (w.alloc (.cells Lib.zeros24 89)) (hT.alloc _))
      have hH0 := Lib.holds_zero w 89 (nd T u) (by omega)
      have hfmt := formatBase10 w.heap.size 1 23 u (Array.replicate (nd T u) 0) (w.alloc (.cells Lib.zeros24 89)) hH0 hu64 (by rw [Array.size_replicate]; omega)
      rw [Array.size_replicate] at hfmt
      have HF := Lib.hid hfmt
      have hsz := digs_size T u
      have hdd : Hid (digs T u = laid u (Array.replicate (nd T u) 0)) := Lib.hid rfl
      generalize digs T u = dk at hsz hdd htx
      generalize nd T u = m at *
      have hal : Tryf.prog.arrayLen 89 = 24 := by simp [Program.arrayLen, Tryf.underlying89]
      have hsl1 : ∀ W, (Instr.sliceAt 89 (.pointer (some ⟨w.heap.size, 0, none⟩)) (some (.int .i64 1)) (some (.int .i64 (1 + (m : Int)))) none).run Tryf.prog W = .ok (.slice (some ⟨w.heap.size, 1, none⟩) m 23) W := fun W => by
        rw [run_sliceAt_array_lh W 89 ⟨w.heap.size, 0, none⟩ (by simp [Program.arrayLen, Program.elem, Tryf.underlying89]) .i64 .i64 1 (1 + (m : Int)) (by omega) (by omega) (by rw [hal]; omega)]
        go_simp
        omega
      have HH0 := Lib.hid hH0
      clear hH0 hal hfmt hT
      go_enter Tryf.func43, Tryf.ntmps43
      go_wp2_with (fail)
      refine HND.out.mono ?_
      rintro e w' ⟨rfl, rfl⟩
      go_wp2_with (fail)
      refine HF.out.mono ?_
      rintro e w' ⟨rfl, k, rfl⟩
      rw [← hdd.out]
      have hc0 : ((putRow bv (w.alloc (.cells Lib.zeros24 89)) w.heap.size 1 dk).drewN k).cell? ⟨w.heap.size, 0, none⟩ = some (.int .u8 0) := by
        rw [World.cell?_drewN, cell?_putRow_other _ _ _ _ _ _ (Or.inr (Or.inl (Nat.zero_lt_one))), World.cell?_alloc_new]
        exact Lib.zeros24_at 0 (by omega)
      have hf0 : ((putRow bv (w.alloc (.cells Lib.zeros24 89)) w.heap.size 1 dk).drewN k).frozen? ⟨w.heap.size, 0, none⟩ = false := by
        rw [World.frozen?_drewN, frozen?_putRow]
        exact World.frozen?_alloc_new _ _ _ _
      have hce : ∀ j (hj : j < dk.size), ((putRow bv (w.alloc (.cells Lib.zeros24 89)) w.heap.size 1 dk).drewN k).cell? ⟨w.heap.size, 1 + j, none⟩ = some (bv dk[j]!) := fun j hj => by
        rw [World.cell?_drewN]
        exact cell?_putRow bv _ w.heap.size 1 _ dk HH0.out (by rw [hsz, Array.size_replicate]) j hj
      obtain ⟨os, eo⟩ := Lib.fin_neg w (.cells Lib.zeros24 89) dk k (.int .u8 45)
      have HEO := Lib.hid eo
      clear eo
      generalize (putRow bv (w.alloc (.cells Lib.zeros24 89)) w.heap.size 1 dk).drewN k = W at *
      have hal : Tryf.prog.arrayLen 89 = 24 := by simp [Program.arrayLen, Tryf.underlying89]
      have hsl2 : ∀ W, (Instr.sliceAt 89 (.pointer (some ⟨w.heap.size, 0, none⟩)) none (some (.int .i64 (1 + (m : Int)))) none).run Tryf.prog W = .ok (.slice (some ⟨w.heap.size, 0, none⟩) (1 + m) 24) W := fun W => by
        rw [run_sliceAt_array_h W 89 ⟨w.heap.size, 0, none⟩ (by simp [Program.arrayLen, Program.elem, Tryf.underlying89]) .i64 (1 + (m : Int)) (by omega) (by rw [hal]; omega)]
        go_simp
        omega
      have hcv : (convert 31 9 (.slice (some ⟨w.heap.size, 0, none⟩) (1 + m) 24)).run Tryf.prog (W.setCell ⟨w.heap.size, 0, none⟩ (.int .u8 45)) = .ok (.string ⟨(45 :: dk.toList).toArray⟩) (W.setCell ⟨w.heap.size, 0, none⟩ (.int .u8 45)) := by
        have h := run_convert_bytes_back (P := Tryf.prog) (W.setCell ⟨w.heap.size, 0, none⟩ (.int .u8 45)) 31 9 5 ⟨w.heap.size, 0, none⟩ 24 (45 :: dk.toList) Tryf.underlying31 Tryf.underlying5 Tryf.underlying9 (fun j hj => by
          rw [Lib.add_plain]
          cases j with
          | zero => exact World.cell?_setCell_same _ _ _ hc0
          | succ i =>
            have hi : i < dk.size := by simpa using hj
            rw [World.cell?_setCell_other _ _ _ _ (by simp), List.getElem_cons_succ, show 0 + (i + 1) = 1 + i by omega, hce i hi, getElem!_pos dk i hi]
            simp)
        rw [List.length_cons, Array.length_toList, hsz, Nat.add_comm] at h
        exact h
      clear hal hce HND HF HH0 hdd
      go_wp2
      go_ret
      refine ⟨by rw [htx.out]; rfl, ?_⟩
      rw [HEO.out]
      exact Lib.below_grow _ _ (Nat.le_refl _) _ _
    · obtain ⟨u, rfl⟩ : ∃ u : Nat, n = u := ⟨n.toNat, by omega⟩
      have hu1 : 1 ≤ u := by omega
      have hu64 : u < 18446744073709551616 := by omega
      have htx : Hid (txt T (u : Int) = ⟨(digs T u).toList.toArray⟩) := Lib.hid (by unfold txt; rw [if_neg hs, if_neg hneg]; rfl)
      have hnd20 : nd T u ≤ 20 := nd_le hu64
      have HND := Lib.hid (numDigits T u hu64 (w.alloc (.cells Lib.zeros24 89)) (hT.alloc _))
      have hH0 := Lib.holds_zero w 89 (nd T u) (by omega)
      have hfmt := formatBase10 w.heap.size 1 23 u (Array.replicate (nd T u) 0) (w.alloc (.cells Lib.zeros24 89)) hH0 hu64 (by rw [Array.size_replicate]; omega)
      rw [Array.size_replicate] at hfmt
      have HF := Lib.hid hfmt
      have hsz := digs_size T u
      have hdd : Hid (digs T u = laid u (Array.replicate (nd T u) 0)) := Lib.hid rfl
      generalize digs T u = dk at hsz hdd htx
      generalize nd T u = m at *
      have hal : Tryf.prog.arrayLen 89 = 24 := by simp [Program.arrayLen, Tryf.underlying89]
      have hsl1 : ∀ W, (Instr.sliceAt 89 (.pointer (some ⟨w.heap.size, 0, none⟩)) (some (.int .i64 1)) (some (.int .i64 (1 + (m : Int)))) none).run Tryf.prog W = .ok (.slice (some ⟨w.heap.size, 1, none⟩) m 23) W := fun W => by
        rw [run_sliceAt_array_lh W 89 ⟨w.heap.size, 0, none⟩ (by simp [Program.arrayLen, Program.elem, Tryf.underlying89]) .i64 .i64 1 (1 + (m : Int)) (by omega) (by omega) (by rw [hal]; omega)]
        go_simp
        omega
      have HH0 := Lib.hid hH0
      clear hH0 hal hfmt hT
      go_enter Tryf.func43, Tryf.ntmps43
      go_wp2_with (fail)
      refine HND.out.mono ?_
      rintro e w' ⟨rfl, rfl⟩
      go_wp2_with (fail)
      refine HF.out.mono ?_
      rintro e w' ⟨rfl, k, rfl⟩
      rw [← hdd.out]
      have hce : ∀ j (hj : j < dk.size), ((putRow bv (w.alloc (.cells Lib.zeros24 89)) w.heap.size 1 dk).drewN k).cell? ⟨w.heap.size, 1 + j, none⟩ = some (bv dk[j]!) := fun j hj => by
        rw [World.cell?_drewN]
        exact cell?_putRow bv _ w.heap.size 1 _ dk HH0.out (by rw [hsz, Array.size_replicate]) j hj
      obtain ⟨os, eo⟩ := Lib.fin_pos w (.cells Lib.zeros24 89) dk k
      have HEO := Lib.hid eo
      clear eo
      generalize (putRow bv (w.alloc (.cells Lib.zeros24 89)) w.heap.size 1 dk).drewN k = W at *
      have hcv : (convert 31 9 (.slice (some ⟨w.heap.size, 1, none⟩) m 23)).run Tryf.prog W = .ok (.string ⟨dk.toList.toArray⟩) W := by
        have h := run_convert_bytes_back (P := Tryf.prog) W 31 9 5 ⟨w.heap.size, 1, none⟩ 23 dk.toList Tryf.underlying31 Tryf.underlying5 Tryf.underlying9 (fun j hj => by
          have hi : j < dk.size := by simpa using hj
          rw [Lib.add_plain, hce j hi, getElem!_pos dk j hi]
          simp)
        rw [Array.length_toList, hsz] at h
        exact h
      clear hce HND HF HH0 hdd
      go_wp2
      go_ret
      refine ⟨by rw [htx.out]; rfl, ?_⟩
      rw [HEO.out]
      exact Lib.below_grow _ _ (Nat.le_refl _) _ _
theorem sFormatInt (T : Nat → Int) (n : Int) (w : World) (h0 : -9223372036854775808 ≤ n) (h1 : n ≤ 9223372036854775807) (hT : Tab T w) :
    Calls Tryf.prog 66 #[.int .i64 n, .int .i64 10] w (Says T n w) := by
  have H := Lib.hid (formatInt T n w h0 h1 hT)
  clear hT
  go_enter Tryf.func66, Tryf.ntmps66
  go_wp2_with (fail)
  refine H.out.mono ?_
  rintro e w1 ⟨rfl, hb⟩
  go_wp2
  go_ret
  exact ⟨rfl, hb⟩
theorem intString (T : Nat → Int) (n : Int) (b : Nat) (w : World) (hc : w.cell? ⟨b, 0, none⟩ = some (.int .i64 n)) (h0 : -9223372036854775808 ≤ n) (h1 : n ≤ 9223372036854775807) (hT : Tab T w) :
    Calls Tryf.prog 64 #[.pointer (some ⟨b, 0, none⟩)] w (Says T n w) := by
  have H := Lib.hid (sFormatInt T n w h0 h1 hT)
  clear hT
  go_enter Tryf.func64, Tryf.ntmps64
  go_wp2_with (fail)
  refine H.out.mono ?_
  rintro e w1 ⟨rfl, hb⟩
  go_wp2
  go_ret
  exact ⟨rfl, hb⟩
theorem txt_size (T : Nat → Int) (n : Int) (h0 : -9223372036854775808 ≤ n) (h1 : n ≤ 9223372036854775807) : (txt T n).data.toList.length ≤ 21 := by
  unfold txt
  split
  · rename_i h
    show (Lib.decDigits n.toNat).toArray.toList.length ≤ 21
    rw [show ∀ l : List UInt8, l.toArray.toList = l from fun l => by simp, Lib.decDigits_length]
    by_cases a : n.toNat < 10
    · rw [Lib.nDigits_small a]; omega
    · rw [Lib.nDigits_big a, Lib.nDigits_small (by omega)]; omega
  · have hl : (digs T n.natAbs).toList.length ≤ 20 := by
      rw [Array.length_toList, digs_size]
      exact nd_le (by omega)
    split
    · show (45 :: (digs T n.natAbs).toList).toArray.toList.length ≤ 21
      rw [show ∀ l : List UInt8, l.toArray.toList = l from fun l => by simp, List.length_cons]; omega
    · show (digs T n.natAbs).toList.toArray.toList.length ≤ 21
      rw [show ∀ l : List UInt8, l.toArray.toList = l from fun l => by simp]; omega
end Go.Proofs.YtaeinldkhjmleaaFmt.Fi
