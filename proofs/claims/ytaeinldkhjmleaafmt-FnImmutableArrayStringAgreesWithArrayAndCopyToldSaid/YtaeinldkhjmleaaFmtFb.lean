/- internal/strconv.formatBase10 at any length of the row and any number: what it lays is a function of the number and the row's length. -/
import Derived.Test.YtaeinldkhjmleaaFmtProg
import Derived.Shelf.RegionOpenPlain
import Derived.Lib.Walk
import Derived.Lib.ItoaWalk
import Derived.WalkKit
import Derived.RegionTactic
import Derived.BigCall
import Derived.BigGuard
import Derived.CellFam
import Derived.KernelRfl
namespace Go.Proofs.YtaeinldkhjmleaaFmt.Fi
open Go.RowKit Go.Sort Go.Lib
/-- A byte in a cell. -/
abbrev bv : UInt8 → Value := fun b => .int .u8 (b.toNat : Int)
/-- Two digits at the places k and k + 1. -/
def two (k p : Nat) (d : Array UInt8) : Array UInt8 := (d.setIfInBounds (k + 1) (sm (p * 2 + 1))).setIfInBounds k (sm (p * 2))
/-- The last place. -/
def one (x : Nat) (d : Array UInt8) : Array UInt8 := d.setIfInBounds 0 (UInt8.ofNat (48 + x))
theorem two_size (k p : Nat) (d : Array UInt8) : (two k p d).size = d.size := by simp [two]
theorem one_size (x : Nat) (d : Array UInt8) : (one x d).size = d.size := by simp [one]
/-- Eight digits at the places m to m + 7. -/
def eight (m v : Nat) (d : Array UInt8) : Array UInt8 := two m (v % 100000000 / 10000 / 100) (two (m + 2) (v % 100000000 / 10000 % 100) (two (m + 4) (v % 100000000 % 10000 / 100) (two (m + 6) (v % 100000000 % 10000 % 100) d)))
theorem eight_size (k p : Nat) (d : Array UInt8) : (eight k p d).size = d.size := by simp [eight, two_size]
/-- The loop's rounds. -/
def rounds (u n : Nat) (d : Array UInt8) : Nat → Array UInt8
  | 0 => d
  | r + 1 => eight (n - 8 * (r + 1)) (u / 100000000 ^ r) (rounds u n d r)
theorem rounds_size (u n : Nat) (d : Array UInt8) : ∀ r, (rounds u n d r).size = d.size
  | 0 => rfl
  | r + 1 => by rw [rounds, eight_size, rounds_size u n d r]
/-- What is left: fewer than eight places. -/
def tail (x : Nat) (d : Array UInt8) : Nat → Array UInt8
  | 0 => d
  | 1 => one x d
  | 2 => two 0 (x % 100) d
  | 3 => one (x / 100) (two 1 (x % 100) d)
  | 4 => two 0 (x % 10000 / 100) (two 2 (x % 10000 % 100) d)
  | 5 => one (x / 10000) (two 1 (x % 10000 / 100) (two 3 (x % 10000 % 100) d))
  | 6 => two 0 (x / 10000 % 100) (two 2 (x % 10000 / 100) (two 4 (x % 10000 % 100) d))
  | _ => one (x / 10000 / 100) (two 1 (x / 10000 % 100) (two 3 (x % 10000 / 100) (two 5 (x % 10000 % 100) d)))
theorem tail_size (x : Nat) (d : Array UInt8) (n : Nat) : (tail x d n).size = d.size := by
  unfold tail
  split <;> simp [one_size, two_size]
/-- What the row holds behind the call. -/
def laid (u : Nat) (d : Array UInt8) : Array UInt8 := tail (u / 100000000 ^ (d.size / 8) % 4294967296) (rounds u d.size d (d.size / 8)) (d.size % 8)
theorem laid_size (u : Nat) (d : Array UInt8) : (laid u d).size = d.size := by rw [laid, tail_size, rounds_size]
theorem put2 (w : World) (blk off : Nat) (dk : Array UInt8) (n m p : Nat) (hm : m + 1 < dk.size) :
    ((((putRow bv w blk off dk).drewN n).setCell ⟨blk, off + (m + 1), none⟩ (.int .u8 ((sm (p * 2 + 1)).toNat : Int))).setCell ⟨blk, off + m, none⟩ (.int .u8 ((sm (p * 2)).toNat : Int))).drew = (putRow bv w blk off (two m p dk)).drewN (n + 1) :=
  store2_world w blk off dk n (m + 1) m _ _ hm (by omega)
theorem put1 (w : World) (blk off : Nat) (dk : Array UInt8) (n : Nat) (z : Int) (x : Nat) (hz : z = (((48 + x) % 256 : Nat) : Int)) (h0 : 0 < dk.size) :
    ((putRow bv w blk off dk).drewN n).setCell ⟨blk, off, none⟩ (.int .u8 z) = (putRow bv w blk off (one x dk)).drewN n :=
  store1_world0 w blk off dk n z x hz h0
theorem put20 (w : World) (blk off : Nat) (dk : Array UInt8) (n p : Nat) (hm : 1 < dk.size) :
    ((((putRow bv w blk off dk).drewN n).setCell ⟨blk, off + 1, none⟩ (.int .u8 ((sm (p * 2 + 1)).toNat : Int))).setCell ⟨blk, off, none⟩ (.int .u8 ((sm (p * 2)).toNat : Int))).drew = (putRow bv w blk off (two 0 p dk)).drewN (n + 1) :=
  store2_world w blk off dk n 1 0 _ _ hm (by omega)
theorem put21 (w : World) (blk off : Nat) (dk : Array UInt8) (n m p : Nat) (z : Int) (x : Nat) (hz : z = (((48 + x) % 256 : Nat) : Int)) (hm : m + 1 < dk.size) :
    (((((putRow bv w blk off dk).drewN n).setCell ⟨blk, off + (m + 1), none⟩ (.int .u8 ((sm (p * 2 + 1)).toNat : Int))).setCell ⟨blk, off + m, none⟩ (.int .u8 ((sm (p * 2)).toNat : Int))).setCell ⟨blk, off, none⟩ (.int .u8 z)).drew = (putRow bv w blk off (one x (two m p dk))).drewN (n + 1) :=
  store21_world w blk off dk n (m + 1) m _ _ z x hz hm (by omega)
/-- What a row that is laid gives the walk. -/
structure At (w W : World) (blk off : Nat) (dk : Array UInt8) (n : Nat) : Prop where
  eq : W = (putRow bv w blk off dk).drewN n
theorem At.cells {w W : World} {blk off : Nat} {d dk : Array UInt8} {n : Nat} (h : At w W blk off dk n) (hH : Holds bv w blk off d) (hs : dk.size = d.size) : (∃ G : Nat → Int, ∀ t, t < d.size → W.cell? ⟨blk, off + t, none⟩ = some (.int .u8 (G t))) ∧ ∀ t, t < d.size → W.frozen? ⟨blk, off + t, none⟩ = false := by
  have h1 : Holds bv W blk off dk := by rw [h.eq]; exact holds_putRow _ w blk off d dk hH hs
  exact ⟨⟨fun t => (dk[t]!.toNat : Int), fun t ht => (h1 t (by omega)).1⟩, fun t ht => (h1 t (by omega)).2⟩
set_option maxHeartbeats 12800000 in
set_option maxRecDepth 100000 in
theorem formatBase10 (blk off cap u : Nat) (d : Array UInt8) (w : World) (hH : Holds bv w blk off d) (hu : u < 18446744073709551616) (hsz : d.size ≤ 64) :
    Calls Tryf.prog 46 #[.slice (some ⟨blk, off, none⟩) d.size cap, .int .u64 u] w fun e w' => e = .returned (.tuple #[]) ∧ ∃ n, w' = (putRow bv w blk off (laid u d)).drewN n := by
  have mixed : Tryf.prog.follows Departure.mixedOrders = true := by kernel_rfl
  go_enter Tryf.func46, Tryf.ntmps46
  go_name_bytes SM hSM
  have eSM : SM = Lib.smalls := by rw [← hSM]; decide +kernel
  subst eSM
  clear hSM
  have AH := Lib.hid hH
  have HD : Hid (∀ r nd, nd < 8 → d.size = nd + 8 * r → laid u d = tail (u / 100000000 ^ r % 4294967296) (rounds u d.size d r) nd) := Lib.hid (fun r nd h1 h2 => by
    have e1 : d.size / 8 = r := by omega
    have e2 : d.size % 8 = nd := by omega
    unfold laid
    rw [e1, e2])
  have A0 : At w w blk off (rounds u d.size d 0) 0 := ⟨(putRow_self _ _ _ _ _ hH).symm⟩
  clear hH
  go_wp2
  go_loopw [1, 4] (fun vu vn wr => ∃ (r nd n : Nat), vu = .int .u64 ((u / 100000000 ^ r : Nat) : Int) ∧ vn = .int .i64 nd ∧ d.size = nd + 8 * r ∧ Hid (At w wr blk off (rounds u d.size d r) n)) (fun _ vn _ => (RowKit.intOf vn).toNat)
  case atStart => exact ⟨0, d.size, 0, by simp, rfl, by simp, Lib.hid A0⟩
  case round =>
    obtain ⟨r, nd, n, rfl, rfl, hsr, HA⟩ := hrel
    rename World => W0
    have hv64 : u / 100000000 ^ r < 18446744073709551616 := Nat.lt_of_le_of_lt (Nat.div_le_self _ _) hu
    have hrs : (rounds u d.size d r).size = d.size := rounds_size u d.size d r
    have HR : Hid (∀ m, nd = m + 8 → rounds u d.size d (r + 1) = eight m (u / 100000000 ^ r) (rounds u d.size d r)) := Lib.hid (fun m hm => by rw [rounds, show d.size - 8 * (r + 1) = m by omega])
    have HQ : Hid (u / 100000000 ^ r / 100000000 = u / 100000000 ^ (r + 1)) := Lib.hid (by rw [Nat.div_div_eq_div_mul, ← Nat.pow_succ])
    have HT : Hid (nd < 8 → laid u d = tail (u / 100000000 ^ r % 4294967296) (rounds u d.size d r) nd) := Lib.hid (fun h => HD.out r nd h hsr)
    clear A0
    generalize hv : u / 100000000 ^ r = v at *
    generalize rounds u d.size d r = dk0 at *
    generalize hm : d.size = N at *
    have HNN := Lib.hid hm
    have HV := Lib.hid hv
    clear hv hm
    obtain ⟨⟨G0, hc0⟩, hf0⟩ := HA.out.cells AH.out (hrs.trans HNN.out.symm)
    rw [HNN.out] at hc0 hf0
    have HA0 := HA
    clear HA
    by_cases h8 : 8 ≤ nd
    · obtain ⟨m, rfl⟩ : ∃ m, nd = m + 8 := ⟨nd - 8, by omega⟩
      have hmN : m + 8 ≤ N := by omega
      · go_wp2
        go_name_slot 9 x0 hx0
        have hp0 : v % 100000000 % 10000 % 100 < 100 := by omega
        have hxe0 : x0 = ((v % 100000000 % 10000 % 100 * 2 : Nat) : Int) := by omega
        obtain ⟨p0, hpe0⟩ : ∃ p, p = v % 100000000 % 10000 % 100 := ⟨_, rfl⟩
        rw [← hpe0] at hxe0 hp0
        have HP0 := Lib.hid hpe0
        have hXa0 : ∀ w, (Instr.index 9 (.string Lib.smalls) (.int .u32 (x0 + 1))).run Tryf.prog w = .ok (.int .u8 ((sm (p0 * 2 + 1)).toNat : Int)) w := idx_smalls 9 Tryf.underlying9 .u32 _ _ (by omega) (by omega)
        have hXb0 : ∀ w, (Instr.index 9 (.string Lib.smalls) (.int .u32 x0)).run Tryf.prog w = .ok (.int .u8 ((sm (p0 * 2)).toNat : Int)) w := idx_smalls 9 Tryf.underlying9 .u32 _ _ (by omega) (by omega)
        have hlo0 : 0 ≤ x0 := by omega
        have hhi0 : x0 ≤ 198 := by omega
        clear hx0 hxe0 hpe0
        go_region_o
        go_wp2
        go_name_world W1 hW1
        have HA1 : Hid (At w W1 blk off (two (m + 6) p0 dk0) (n + 0 + 1)) := Lib.hid ⟨by rw [← hW1, HA0.out.eq]; exact put2 w blk off dk0 (n + 0) (m + 6) p0 (by omega)⟩
        have hrs1 : (two (m + 6) p0 dk0).size = N := by rw [two_size]; exact hrs
        obtain ⟨dk1, hdk1⟩ : ∃ dk, dk = two (m + 6) p0 dk0 := ⟨_, rfl⟩
        rw [← hdk1] at HA1 hrs1
        have HK1 := Lib.hid hdk1
        clear hdk1 hW1 hc0 hf0 hXa0 hXb0 hlo0 hhi0 hp0
        obtain ⟨⟨G1, hc1⟩, hf1⟩ := HA1.out.cells AH.out (hrs1.trans HNN.out.symm)
        rw [HNN.out] at hc1 hf1
        go_name_slot 8 x1 hx1
        have hp1 : v % 100000000 % 10000 / 100 < 100 := by omega
        have hxe1 : x1 = ((v % 100000000 % 10000 / 100 * 2 : Nat) : Int) := by omega
        obtain ⟨p1, hpe1⟩ : ∃ p, p = v % 100000000 % 10000 / 100 := ⟨_, rfl⟩
        rw [← hpe1] at hxe1 hp1
        have HP1 := Lib.hid hpe1
        have hXa1 : ∀ w, (Instr.index 9 (.string Lib.smalls) (.int .u32 (x1 + 1))).run Tryf.prog w = .ok (.int .u8 ((sm (p1 * 2 + 1)).toNat : Int)) w := idx_smalls 9 Tryf.underlying9 .u32 _ _ (by omega) (by omega)
        have hXb1 : ∀ w, (Instr.index 9 (.string Lib.smalls) (.int .u32 x1)).run Tryf.prog w = .ok (.int .u8 ((sm (p1 * 2)).toNat : Int)) w := idx_smalls 9 Tryf.underlying9 .u32 _ _ (by omega) (by omega)
        have hlo1 : 0 ≤ x1 := by omega
        have hhi1 : x1 ≤ 198 := by omega
        clear hx1 hxe1 hpe1
        go_region_o
        go_wp2
        go_name_world W2 hW2
        have HA2 : Hid (At w W2 blk off (two (m + 4) p1 dk1) (n + 1 + 1)) := Lib.hid ⟨by rw [← hW2, HA1.out.eq]; exact put2 w blk off dk1 (n + 1) (m + 4) p1 (by omega)⟩
        have hrs2 : (two (m + 4) p1 dk1).size = N := by rw [two_size]; exact hrs1
        obtain ⟨dk2, hdk2⟩ : ∃ dk, dk = two (m + 4) p1 dk1 := ⟨_, rfl⟩
        rw [← hdk2] at HA2 hrs2
        have HK2 := Lib.hid hdk2
        clear hdk2 hW2 hc1 hf1 hXa1 hXb1 hlo1 hhi1 hp1
        obtain ⟨⟨G2, hc2⟩, hf2⟩ := HA2.out.cells AH.out (hrs2.trans HNN.out.symm)
        rw [HNN.out] at hc2 hf2
        go_name_slot 11 x2 hx2
        have hp2 : v % 100000000 / 10000 % 100 < 100 := by omega
        have hxe2 : x2 = ((v % 100000000 / 10000 % 100 * 2 : Nat) : Int) := by omega
        obtain ⟨p2, hpe2⟩ : ∃ p, p = v % 100000000 / 10000 % 100 := ⟨_, rfl⟩
        rw [← hpe2] at hxe2 hp2
        have HP2 := Lib.hid hpe2
        have hXa2 : ∀ w, (Instr.index 9 (.string Lib.smalls) (.int .u32 (x2 + 1))).run Tryf.prog w = .ok (.int .u8 ((sm (p2 * 2 + 1)).toNat : Int)) w := idx_smalls 9 Tryf.underlying9 .u32 _ _ (by omega) (by omega)
        have hXb2 : ∀ w, (Instr.index 9 (.string Lib.smalls) (.int .u32 x2)).run Tryf.prog w = .ok (.int .u8 ((sm (p2 * 2)).toNat : Int)) w := idx_smalls 9 Tryf.underlying9 .u32 _ _ (by omega) (by omega)
        have hlo2 : 0 ≤ x2 := by omega
        have hhi2 : x2 ≤ 198 := by omega
        clear hx2 hxe2 hpe2
        go_region_o
        go_wp2
        go_name_world W3 hW3
        have HA3 : Hid (At w W3 blk off (two (m + 2) p2 dk2) (n + 2 + 1)) := Lib.hid ⟨by rw [← hW3, HA2.out.eq]; exact put2 w blk off dk2 (n + 2) (m + 2) p2 (by omega)⟩
        have hrs3 : (two (m + 2) p2 dk2).size = N := by rw [two_size]; exact hrs2
        obtain ⟨dk3, hdk3⟩ : ∃ dk, dk = two (m + 2) p2 dk2 := ⟨_, rfl⟩
        rw [← hdk3] at HA3 hrs3
        have HK3 := Lib.hid hdk3
        clear hdk3 hW3 hc2 hf2 hXa2 hXb2 hlo2 hhi2 hp2
        obtain ⟨⟨G3, hc3⟩, hf3⟩ := HA3.out.cells AH.out (hrs3.trans HNN.out.symm)
        rw [HNN.out] at hc3 hf3
        go_name_slot 10 x3 hx3
        have hp3 : v % 100000000 / 10000 / 100 < 100 := by omega
        have hxe3 : x3 = ((v % 100000000 / 10000 / 100 * 2 : Nat) : Int) := by omega
        obtain ⟨p3, hpe3⟩ : ∃ p, p = v % 100000000 / 10000 / 100 := ⟨_, rfl⟩
        rw [← hpe3] at hxe3 hp3
        have HP3 := Lib.hid hpe3
        have hXa3 : ∀ w, (Instr.index 9 (.string Lib.smalls) (.int .u32 (x3 + 1))).run Tryf.prog w = .ok (.int .u8 ((sm (p3 * 2 + 1)).toNat : Int)) w := idx_smalls 9 Tryf.underlying9 .u32 _ _ (by omega) (by omega)
        have hXb3 : ∀ w, (Instr.index 9 (.string Lib.smalls) (.int .u32 x3)).run Tryf.prog w = .ok (.int .u8 ((sm (p3 * 2)).toNat : Int)) w := idx_smalls 9 Tryf.underlying9 .u32 _ _ (by omega) (by omega)
        have hlo3 : 0 ≤ x3 := by omega
        have hhi3 : x3 ≤ 198 := by omega
        clear hx3 hxe3 hpe3
        go_region_o
        go_wp2
        go_roundw
        case rel =>
          refine ⟨r + 1, m, n + 3 + 1, by rw [← HQ.out]; first | rfl | go_num | (congr 1; omega), by first | rfl | go_num | (congr 1; omega), by omega, Lib.hid ⟨?_⟩⟩
          rw [HR.out m rfl, HA3.out.eq]
          unfold eight
          rw [← HP0.out, ← HP1.out, ← HP2.out, ← HP3.out, ← HK1.out, ← HK2.out, ← HK3.out]
          exact put2 w blk off dk3 (n + 3) m p3 (by omega)
        case measure => simp [RowKit.intOf]; omega
    · have hc8 : nd = 0 ∨ nd = 1 ∨ nd = 2 ∨ nd = 3 ∨ nd = 4 ∨ nd = 5 ∨ nd = 6 ∨ nd = 7 := by omega
      have HT8 := Lib.hid (HT.out (by omega))
      clear HT HQ HR h8
      rcases hc8 with rfl | rfl | rfl | rfl | rfl | rfl | rfl | rfl
      · -- nd = 0
          go_wp2
          go_end0
          refine ⟨rfl, n, ?_⟩
          rw [HT8.out, HA0.out.eq]
          rfl
      · -- nd = 1
          go_wp2
          go_end0
          refine ⟨rfl, n, ?_⟩
          rw [HT8.out, HA0.out.eq]
          unfold tail
          simp only []
          exact put1 w blk off dk0 n _ (v % 4294967296) (by omega) (by omega)
      · -- nd = 2
          go_wp2
          go_name_slot 16 x0 hx0
          have hp0 : (v % 4294967296) % 100 < 100 := by omega
          have hxe0 : x0 = (((v % 4294967296) % 100 * 2 : Nat) : Int) := by omega
          obtain ⟨p0, hpe0⟩ : ∃ p, p = (v % 4294967296) % 100 := ⟨_, rfl⟩
          rw [← hpe0] at hxe0 hp0
          have HP0 := Lib.hid hpe0
          have hXa0 : ∀ w, (Instr.index 9 (.string Lib.smalls) (.int .u32 (x0 + 1))).run Tryf.prog w = .ok (.int .u8 ((sm (p0 * 2 + 1)).toNat : Int)) w := idx_smalls 9 Tryf.underlying9 .u32 _ _ (by omega) (by omega)
          have hXb0 : ∀ w, (Instr.index 9 (.string Lib.smalls) (.int .u32 x0)).run Tryf.prog w = .ok (.int .u8 ((sm (p0 * 2)).toNat : Int)) w := idx_smalls 9 Tryf.underlying9 .u32 _ _ (by omega) (by omega)
          have hlo0 : 0 ≤ x0 := by omega
          have hhi0 : x0 ≤ 198 := by omega
          clear hx0 hxe0 hpe0
          go_region_o
          go_wp2
          go_end0
          refine ⟨rfl, n + 0 + 1, ?_⟩
          rw [HT8.out, HA0.out.eq]
          unfold tail
          simp only []
          rw [← HP0.out]
          exact put20 w blk off dk0 (n + 0) p0 (by omega)
      · -- nd = 3
          go_wp2
          go_name_slot 16 x0 hx0
          have hp0 : (v % 4294967296) % 100 < 100 := by omega
          have hxe0 : x0 = (((v % 4294967296) % 100 * 2 : Nat) : Int) := by omega
          obtain ⟨p0, hpe0⟩ : ∃ p, p = (v % 4294967296) % 100 := ⟨_, rfl⟩
          rw [← hpe0] at hxe0 hp0
          have HP0 := Lib.hid hpe0
          have hXa0 : ∀ w, (Instr.index 9 (.string Lib.smalls) (.int .u32 (x0 + 1))).run Tryf.prog w = .ok (.int .u8 ((sm (p0 * 2 + 1)).toNat : Int)) w := idx_smalls 9 Tryf.underlying9 .u32 _ _ (by omega) (by omega)
          have hXb0 : ∀ w, (Instr.index 9 (.string Lib.smalls) (.int .u32 x0)).run Tryf.prog w = .ok (.int .u8 ((sm (p0 * 2)).toNat : Int)) w := idx_smalls 9 Tryf.underlying9 .u32 _ _ (by omega) (by omega)
          have hlo0 : 0 ≤ x0 := by omega
          have hhi0 : x0 ≤ 198 := by omega
          clear hx0 hxe0 hpe0
          go_region_o
          go_wp2
          go_end0
          refine ⟨rfl, n + 0 + 1, ?_⟩
          rw [HT8.out, HA0.out.eq]
          unfold tail
          simp only []
          rw [← HP0.out]
          exact put21 w blk off dk0 (n + 0) 1 p0 _ ((v % 4294967296) / 100) (by omega) (by omega)
      · -- nd = 4
          go_wp2
          go_name_slot 15 x0 hx0
          have hp0 : (v % 4294967296) % 10000 % 100 < 100 := by omega
          have hxe0 : x0 = (((v % 4294967296) % 10000 % 100 * 2 : Nat) : Int) := by omega
          obtain ⟨p0, hpe0⟩ : ∃ p, p = (v % 4294967296) % 10000 % 100 := ⟨_, rfl⟩
          rw [← hpe0] at hxe0 hp0
          have HP0 := Lib.hid hpe0
          have hXa0 : ∀ w, (Instr.index 9 (.string Lib.smalls) (.int .u32 (x0 + 1))).run Tryf.prog w = .ok (.int .u8 ((sm (p0 * 2 + 1)).toNat : Int)) w := idx_smalls 9 Tryf.underlying9 .u32 _ _ (by omega) (by omega)
          have hXb0 : ∀ w, (Instr.index 9 (.string Lib.smalls) (.int .u32 x0)).run Tryf.prog w = .ok (.int .u8 ((sm (p0 * 2)).toNat : Int)) w := idx_smalls 9 Tryf.underlying9 .u32 _ _ (by omega) (by omega)
          have hlo0 : 0 ≤ x0 := by omega
          have hhi0 : x0 ≤ 198 := by omega
          clear hx0 hxe0 hpe0
          go_region_o
          go_wp2
          go_name_world W1 hW1
          have HA1 : Hid (At w W1 blk off (two (2) p0 dk0) (n + 0 + 1)) := Lib.hid ⟨by rw [← hW1, HA0.out.eq]; exact put2 w blk off dk0 (n + 0) (2) p0 (by omega)⟩
          have hrs1 : (two (2) p0 dk0).size = N := by rw [two_size]; exact hrs
          obtain ⟨dk1, hdk1⟩ : ∃ dk, dk = two (2) p0 dk0 := ⟨_, rfl⟩
          rw [← hdk1] at HA1 hrs1
          have HK1 := Lib.hid hdk1
          clear hdk1 hW1 hc0 hf0 hXa0 hXb0 hlo0 hhi0 hp0
          obtain ⟨⟨G1, hc1⟩, hf1⟩ := HA1.out.cells AH.out (hrs1.trans HNN.out.symm)
          rw [HNN.out] at hc1 hf1
          go_name_slot 14 x1 hx1
          have hp1 : (v % 4294967296) % 10000 / 100 < 100 := by omega
          have hxe1 : x1 = (((v % 4294967296) % 10000 / 100 * 2 : Nat) : Int) := by omega
          obtain ⟨p1, hpe1⟩ : ∃ p, p = (v % 4294967296) % 10000 / 100 := ⟨_, rfl⟩
          rw [← hpe1] at hxe1 hp1
          have HP1 := Lib.hid hpe1
          have hXa1 : ∀ w, (Instr.index 9 (.string Lib.smalls) (.int .u32 (x1 + 1))).run Tryf.prog w = .ok (.int .u8 ((sm (p1 * 2 + 1)).toNat : Int)) w := idx_smalls 9 Tryf.underlying9 .u32 _ _ (by omega) (by omega)
          have hXb1 : ∀ w, (Instr.index 9 (.string Lib.smalls) (.int .u32 x1)).run Tryf.prog w = .ok (.int .u8 ((sm (p1 * 2)).toNat : Int)) w := idx_smalls 9 Tryf.underlying9 .u32 _ _ (by omega) (by omega)
          have hlo1 : 0 ≤ x1 := by omega
          have hhi1 : x1 ≤ 198 := by omega
          clear hx1 hxe1 hpe1
          go_region_o
          go_wp2
          go_end0
          refine ⟨rfl, n + 1 + 1, ?_⟩
          rw [HT8.out, HA1.out.eq]
          unfold tail
          simp only []
          rw [← HP0.out, ← HP1.out, ← HK1.out]
          exact put20 w blk off dk1 (n + 1) p1 (by omega)
      · -- nd = 5
          go_wp2
          go_name_slot 15 x0 hx0
          have hp0 : (v % 4294967296) % 10000 % 100 < 100 := by omega
          have hxe0 : x0 = (((v % 4294967296) % 10000 % 100 * 2 : Nat) : Int) := by omega
          obtain ⟨p0, hpe0⟩ : ∃ p, p = (v % 4294967296) % 10000 % 100 := ⟨_, rfl⟩
          rw [← hpe0] at hxe0 hp0
          have HP0 := Lib.hid hpe0
          have hXa0 : ∀ w, (Instr.index 9 (.string Lib.smalls) (.int .u32 (x0 + 1))).run Tryf.prog w = .ok (.int .u8 ((sm (p0 * 2 + 1)).toNat : Int)) w := idx_smalls 9 Tryf.underlying9 .u32 _ _ (by omega) (by omega)
          have hXb0 : ∀ w, (Instr.index 9 (.string Lib.smalls) (.int .u32 x0)).run Tryf.prog w = .ok (.int .u8 ((sm (p0 * 2)).toNat : Int)) w := idx_smalls 9 Tryf.underlying9 .u32 _ _ (by omega) (by omega)
          have hlo0 : 0 ≤ x0 := by omega
          have hhi0 : x0 ≤ 198 := by omega
          clear hx0 hxe0 hpe0
          go_region_o
          go_wp2
          go_name_world W1 hW1
          have HA1 : Hid (At w W1 blk off (two (3) p0 dk0) (n + 0 + 1)) := Lib.hid ⟨by rw [← hW1, HA0.out.eq]; exact put2 w blk off dk0 (n + 0) (3) p0 (by omega)⟩
          have hrs1 : (two (3) p0 dk0).size = N := by rw [two_size]; exact hrs
          obtain ⟨dk1, hdk1⟩ : ∃ dk, dk = two (3) p0 dk0 := ⟨_, rfl⟩
          rw [← hdk1] at HA1 hrs1
          have HK1 := Lib.hid hdk1
          clear hdk1 hW1 hc0 hf0 hXa0 hXb0 hlo0 hhi0 hp0
          obtain ⟨⟨G1, hc1⟩, hf1⟩ := HA1.out.cells AH.out (hrs1.trans HNN.out.symm)
          rw [HNN.out] at hc1 hf1
          go_name_slot 14 x1 hx1
          have hp1 : (v % 4294967296) % 10000 / 100 < 100 := by omega
          have hxe1 : x1 = (((v % 4294967296) % 10000 / 100 * 2 : Nat) : Int) := by omega
          obtain ⟨p1, hpe1⟩ : ∃ p, p = (v % 4294967296) % 10000 / 100 := ⟨_, rfl⟩
          rw [← hpe1] at hxe1 hp1
          have HP1 := Lib.hid hpe1
          have hXa1 : ∀ w, (Instr.index 9 (.string Lib.smalls) (.int .u32 (x1 + 1))).run Tryf.prog w = .ok (.int .u8 ((sm (p1 * 2 + 1)).toNat : Int)) w := idx_smalls 9 Tryf.underlying9 .u32 _ _ (by omega) (by omega)
          have hXb1 : ∀ w, (Instr.index 9 (.string Lib.smalls) (.int .u32 x1)).run Tryf.prog w = .ok (.int .u8 ((sm (p1 * 2)).toNat : Int)) w := idx_smalls 9 Tryf.underlying9 .u32 _ _ (by omega) (by omega)
          have hlo1 : 0 ≤ x1 := by omega
          have hhi1 : x1 ≤ 198 := by omega
          clear hx1 hxe1 hpe1
          go_region_o
          go_wp2
          go_end0
          refine ⟨rfl, n + 1 + 1, ?_⟩
          rw [HT8.out, HA1.out.eq]
          unfold tail
          simp only []
          rw [← HP0.out, ← HP1.out, ← HK1.out]
          exact put21 w blk off dk1 (n + 1) 1 p1 _ ((v % 4294967296) / 10000) (by omega) (by omega)
      · -- nd = 6
          go_wp2
          go_name_slot 15 x0 hx0
          have hp0 : (v % 4294967296) % 10000 % 100 < 100 := by omega
          have hxe0 : x0 = (((v % 4294967296) % 10000 % 100 * 2 : Nat) : Int) := by omega
          obtain ⟨p0, hpe0⟩ : ∃ p, p = (v % 4294967296) % 10000 % 100 := ⟨_, rfl⟩
          rw [← hpe0] at hxe0 hp0
          have HP0 := Lib.hid hpe0
          have hXa0 : ∀ w, (Instr.index 9 (.string Lib.smalls) (.int .u32 (x0 + 1))).run Tryf.prog w = .ok (.int .u8 ((sm (p0 * 2 + 1)).toNat : Int)) w := idx_smalls 9 Tryf.underlying9 .u32 _ _ (by omega) (by omega)
          have hXb0 : ∀ w, (Instr.index 9 (.string Lib.smalls) (.int .u32 x0)).run Tryf.prog w = .ok (.int .u8 ((sm (p0 * 2)).toNat : Int)) w := idx_smalls 9 Tryf.underlying9 .u32 _ _ (by omega) (by omega)
          have hlo0 : 0 ≤ x0 := by omega
          have hhi0 : x0 ≤ 198 := by omega
          clear hx0 hxe0 hpe0
          go_region_o
          go_wp2
          go_name_world W1 hW1
          have HA1 : Hid (At w W1 blk off (two (4) p0 dk0) (n + 0 + 1)) := Lib.hid ⟨by rw [← hW1, HA0.out.eq]; exact put2 w blk off dk0 (n + 0) (4) p0 (by omega)⟩
          have hrs1 : (two (4) p0 dk0).size = N := by rw [two_size]; exact hrs
          obtain ⟨dk1, hdk1⟩ : ∃ dk, dk = two (4) p0 dk0 := ⟨_, rfl⟩
          rw [← hdk1] at HA1 hrs1
          have HK1 := Lib.hid hdk1
          clear hdk1 hW1 hc0 hf0 hXa0 hXb0 hlo0 hhi0 hp0
          obtain ⟨⟨G1, hc1⟩, hf1⟩ := HA1.out.cells AH.out (hrs1.trans HNN.out.symm)
          rw [HNN.out] at hc1 hf1
          go_name_slot 14 x1 hx1
          have hp1 : (v % 4294967296) % 10000 / 100 < 100 := by omega
          have hxe1 : x1 = (((v % 4294967296) % 10000 / 100 * 2 : Nat) : Int) := by omega
          obtain ⟨p1, hpe1⟩ : ∃ p, p = (v % 4294967296) % 10000 / 100 := ⟨_, rfl⟩
          rw [← hpe1] at hxe1 hp1
          have HP1 := Lib.hid hpe1
          have hXa1 : ∀ w, (Instr.index 9 (.string Lib.smalls) (.int .u32 (x1 + 1))).run Tryf.prog w = .ok (.int .u8 ((sm (p1 * 2 + 1)).toNat : Int)) w := idx_smalls 9 Tryf.underlying9 .u32 _ _ (by omega) (by omega)
          have hXb1 : ∀ w, (Instr.index 9 (.string Lib.smalls) (.int .u32 x1)).run Tryf.prog w = .ok (.int .u8 ((sm (p1 * 2)).toNat : Int)) w := idx_smalls 9 Tryf.underlying9 .u32 _ _ (by omega) (by omega)
          have hlo1 : 0 ≤ x1 := by omega
          have hhi1 : x1 ≤ 198 := by omega
          clear hx1 hxe1 hpe1
          go_region_o
          go_wp2
          go_name_world W2 hW2
          have HA2 : Hid (At w W2 blk off (two (2) p1 dk1) (n + 1 + 1)) := Lib.hid ⟨by rw [← hW2, HA1.out.eq]; exact put2 w blk off dk1 (n + 1) (2) p1 (by omega)⟩
          have hrs2 : (two (2) p1 dk1).size = N := by rw [two_size]; exact hrs1
          obtain ⟨dk2, hdk2⟩ : ∃ dk, dk = two (2) p1 dk1 := ⟨_, rfl⟩
          rw [← hdk2] at HA2 hrs2
          have HK2 := Lib.hid hdk2
          clear hdk2 hW2 hc1 hf1 hXa1 hXb1 hlo1 hhi1 hp1
          obtain ⟨⟨G2, hc2⟩, hf2⟩ := HA2.out.cells AH.out (hrs2.trans HNN.out.symm)
          rw [HNN.out] at hc2 hf2
          go_name_slot 16 x2 hx2
          have hp2 : (v % 4294967296) / 10000 % 100 < 100 := by omega
          have hxe2 : x2 = (((v % 4294967296) / 10000 % 100 * 2 : Nat) : Int) := by omega
          obtain ⟨p2, hpe2⟩ : ∃ p, p = (v % 4294967296) / 10000 % 100 := ⟨_, rfl⟩
          rw [← hpe2] at hxe2 hp2
          have HP2 := Lib.hid hpe2
          have hXa2 : ∀ w, (Instr.index 9 (.string Lib.smalls) (.int .u32 (x2 + 1))).run Tryf.prog w = .ok (.int .u8 ((sm (p2 * 2 + 1)).toNat : Int)) w := idx_smalls 9 Tryf.underlying9 .u32 _ _ (by omega) (by omega)
          have hXb2 : ∀ w, (Instr.index 9 (.string Lib.smalls) (.int .u32 x2)).run Tryf.prog w = .ok (.int .u8 ((sm (p2 * 2)).toNat : Int)) w := idx_smalls 9 Tryf.underlying9 .u32 _ _ (by omega) (by omega)
          have hlo2 : 0 ≤ x2 := by omega
          have hhi2 : x2 ≤ 198 := by omega
          clear hx2 hxe2 hpe2
          go_region_o
          go_wp2
          go_end0
          refine ⟨rfl, n + 2 + 1, ?_⟩
          rw [HT8.out, HA2.out.eq]
          unfold tail
          simp only []
          rw [← HP0.out, ← HP1.out, ← HP2.out, ← HK1.out, ← HK2.out]
          exact put20 w blk off dk2 (n + 2) p2 (by omega)
      · -- nd = 7
          go_wp2
          go_name_slot 15 x0 hx0
          have hp0 : (v % 4294967296) % 10000 % 100 < 100 := by omega
          have hxe0 : x0 = (((v % 4294967296) % 10000 % 100 * 2 : Nat) : Int) := by omega
          obtain ⟨p0, hpe0⟩ : ∃ p, p = (v % 4294967296) % 10000 % 100 := ⟨_, rfl⟩
          rw [← hpe0] at hxe0 hp0
          have HP0 := Lib.hid hpe0
          have hXa0 : ∀ w, (Instr.index 9 (.string Lib.smalls) (.int .u32 (x0 + 1))).run Tryf.prog w = .ok (.int .u8 ((sm (p0 * 2 + 1)).toNat : Int)) w := idx_smalls 9 Tryf.underlying9 .u32 _ _ (by omega) (by omega)
          have hXb0 : ∀ w, (Instr.index 9 (.string Lib.smalls) (.int .u32 x0)).run Tryf.prog w = .ok (.int .u8 ((sm (p0 * 2)).toNat : Int)) w := idx_smalls 9 Tryf.underlying9 .u32 _ _ (by omega) (by omega)
          have hlo0 : 0 ≤ x0 := by omega
          have hhi0 : x0 ≤ 198 := by omega
          clear hx0 hxe0 hpe0
          go_region_o
          go_wp2
          go_name_world W1 hW1
          have HA1 : Hid (At w W1 blk off (two (5) p0 dk0) (n + 0 + 1)) := Lib.hid ⟨by rw [← hW1, HA0.out.eq]; exact put2 w blk off dk0 (n + 0) (5) p0 (by omega)⟩
          have hrs1 : (two (5) p0 dk0).size = N := by rw [two_size]; exact hrs
          obtain ⟨dk1, hdk1⟩ : ∃ dk, dk = two (5) p0 dk0 := ⟨_, rfl⟩
          rw [← hdk1] at HA1 hrs1
          have HK1 := Lib.hid hdk1
          clear hdk1 hW1 hc0 hf0 hXa0 hXb0 hlo0 hhi0 hp0
          obtain ⟨⟨G1, hc1⟩, hf1⟩ := HA1.out.cells AH.out (hrs1.trans HNN.out.symm)
          rw [HNN.out] at hc1 hf1
          go_name_slot 14 x1 hx1
          have hp1 : (v % 4294967296) % 10000 / 100 < 100 := by omega
          have hxe1 : x1 = (((v % 4294967296) % 10000 / 100 * 2 : Nat) : Int) := by omega
          obtain ⟨p1, hpe1⟩ : ∃ p, p = (v % 4294967296) % 10000 / 100 := ⟨_, rfl⟩
          rw [← hpe1] at hxe1 hp1
          have HP1 := Lib.hid hpe1
          have hXa1 : ∀ w, (Instr.index 9 (.string Lib.smalls) (.int .u32 (x1 + 1))).run Tryf.prog w = .ok (.int .u8 ((sm (p1 * 2 + 1)).toNat : Int)) w := idx_smalls 9 Tryf.underlying9 .u32 _ _ (by omega) (by omega)
          have hXb1 : ∀ w, (Instr.index 9 (.string Lib.smalls) (.int .u32 x1)).run Tryf.prog w = .ok (.int .u8 ((sm (p1 * 2)).toNat : Int)) w := idx_smalls 9 Tryf.underlying9 .u32 _ _ (by omega) (by omega)
          have hlo1 : 0 ≤ x1 := by omega
          have hhi1 : x1 ≤ 198 := by omega
          clear hx1 hxe1 hpe1
          go_region_o
          go_wp2
          go_name_world W2 hW2
          have HA2 : Hid (At w W2 blk off (two (3) p1 dk1) (n + 1 + 1)) := Lib.hid ⟨by rw [← hW2, HA1.out.eq]; exact put2 w blk off dk1 (n + 1) (3) p1 (by omega)⟩
          have hrs2 : (two (3) p1 dk1).size = N := by rw [two_size]; exact hrs1
          obtain ⟨dk2, hdk2⟩ : ∃ dk, dk = two (3) p1 dk1 := ⟨_, rfl⟩
          rw [← hdk2] at HA2 hrs2
          have HK2 := Lib.hid hdk2
          clear hdk2 hW2 hc1 hf1 hXa1 hXb1 hlo1 hhi1 hp1
          obtain ⟨⟨G2, hc2⟩, hf2⟩ := HA2.out.cells AH.out (hrs2.trans HNN.out.symm)
          rw [HNN.out] at hc2 hf2
          go_name_slot 16 x2 hx2
          have hp2 : (v % 4294967296) / 10000 % 100 < 100 := by omega
          have hxe2 : x2 = (((v % 4294967296) / 10000 % 100 * 2 : Nat) : Int) := by omega
          obtain ⟨p2, hpe2⟩ : ∃ p, p = (v % 4294967296) / 10000 % 100 := ⟨_, rfl⟩
          rw [← hpe2] at hxe2 hp2
          have HP2 := Lib.hid hpe2
          have hXa2 : ∀ w, (Instr.index 9 (.string Lib.smalls) (.int .u32 (x2 + 1))).run Tryf.prog w = .ok (.int .u8 ((sm (p2 * 2 + 1)).toNat : Int)) w := idx_smalls 9 Tryf.underlying9 .u32 _ _ (by omega) (by omega)
          have hXb2 : ∀ w, (Instr.index 9 (.string Lib.smalls) (.int .u32 x2)).run Tryf.prog w = .ok (.int .u8 ((sm (p2 * 2)).toNat : Int)) w := idx_smalls 9 Tryf.underlying9 .u32 _ _ (by omega) (by omega)
          have hlo2 : 0 ≤ x2 := by omega
          have hhi2 : x2 ≤ 198 := by omega
          clear hx2 hxe2 hpe2
          go_region_o
          go_wp2
          go_end0
          refine ⟨rfl, n + 2 + 1, ?_⟩
          rw [HT8.out, HA2.out.eq]
          unfold tail
          simp only []
          rw [← HP0.out, ← HP1.out, ← HP2.out, ← HK1.out, ← HK2.out]
          exact put21 w blk off dk2 (n + 2) 1 p2 _ ((v % 4294967296) / 10000 / 100) (by rw [show (v : Int) % 4294967296 / 10000 / 100 = ((v % 4294967296 / 10000 / 100 : Nat) : Int) from by omega]; generalize v % 4294967296 / 10000 / 100 = Y; omega) (by omega)
end Go.Proofs.YtaeinldkhjmleaaFmt.Fi
