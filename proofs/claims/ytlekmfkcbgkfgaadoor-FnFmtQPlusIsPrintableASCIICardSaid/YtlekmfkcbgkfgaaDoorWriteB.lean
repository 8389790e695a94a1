/- The buffer's method Write, and utf8.RuneCount: bytes that lie elsewhere are added behind what the buffer holds; the runes of such bytes are counted. -/
import Derived.Test.YtlekmfkcbgkfgaaDoorPad

import Derived.Test.YtlekmfkcbgkfgaaDoorShelf
import Derived.Lib.RuneCountTail
import Derived.Laws.BytesArg
import Derived.Laws.Cells
import Derived.Laws.AppendOwnNone
namespace Go.Proofs.YtlekmfkcbgkfgaaDoor.Fm
open Go.ChangeShapes Go.WideShapes Go.ChangeAt Go.RowKit Go.Fmt

/-- The bytes 'cs' lie at the slice 'p', in a block below 'base' that is not the block 'k'. -/
def Src (w : World) (base k : Nat) (p : Option Addr) (cs : List UInt8) : Prop :=
  (p = none ∧ cs = []) ∨ ∃ bk o, p = some ⟨bk, o, none⟩ ∧ bk < base ∧ bk ≠ k ∧ ∀ j (hj : j < cs.length), w.cell? ⟨bk, o + j, none⟩ = some (.int .u8 (cs[j].toNat : Int))

theorem Src.kept {w w' : World} {base : Nat} {a : Addr} {p : Option Addr} {cs : List UInt8} (h : Src w base a.block p cs) (hk : Kept base a w w') : Src w' base a.block p cs := by
  rcases h with h | ⟨bk, o, rfl, h1, h2, h3⟩
  · exact .inl h
  · exact .inr ⟨bk, o, rfl, h1, h2, fun j hj => (hk.cellAt h1 (fun e => h2 (by rw [← e]))).trans (h3 j hj)⟩

set_option maxRecDepth 100000 in
set_option maxHeartbeats 1000000 in
theorem writeSome (a : Addr) (base : Nat) (bs cs : List UInt8) (bk o c : Nat) (w : World) (hb : Buf 5 w base a bs) (hs : ∀ j (hj : j < cs.length), w.cell? ⟨bk, o + j, none⟩ = some (.int .u8 (cs[j].toNat : Int)))
    (hg1 : w.cell? ⟨0, 0, none⟩ = some (.int .i64 2147483647)) (hlen : bs.length + cs.length ≤ 2147483647) :
    Calls Tryd.prog 17 #[.pointer (some a), .slice (some ⟨bk, o, none⟩) cs.length c] w fun e w' => e = .returned (.tuple #[]) ∧ Buf 5 w' base a (bs ++ cs) ∧ Kept base a w w' := by
  have hB := hb
  obtain ⟨p, cap, h1, h2, h3, h4, h5, h6, h7⟩ := hb
  have hI := Lib.hid info5
  have hc2 : bs.length + cs.length ≤ 140737488355328 := by omega
  have hN : Hid (∀ j u, (bcells cs)[j]? = some u → w.cell? ((⟨bk, o, none⟩ : Addr).add j) = some u) := Lib.hid (by
    intro j u hj
    have hl := (List.getElem?_eq_some_iff.1 hj).1
    rw [bcells_length] at hl
    rw [addr_add, hs j hl]
    simp [bcells, List.getElem?_eq_getElem hl] at hj
    rw [← hj])
  clear hs
  go_enter Tryd.func17, Tryd.ntmps17
  go_wp2
  go_quiet (fail)
  go_wp2_with ((at_builtin; refine append_row2 rfl _ _ 25 24 rfl base 5 Tryd.underlying25 Tryd.underlying24 hI.out p bs cap rfl h3 ⟨bk, o, none⟩ c cs rfl hN.out hc2 h7 ?_; intro p' cap' w' hown' hcap1 hcap2 hgrow; replace hgrow := grown_drewN hgrow; obtain ⟨hca, hfa⟩ := grown_cell h3 hgrow h6 h7 h1 h2))
  go_end0
  exact ⟨rfl, buf_store hB (Kept.refl _ _ _) h7 rfl hown' hgrow (fun k hk => (h3.lt k hk).1)⟩

set_option maxRecDepth 100000 in
set_option maxHeartbeats 1000000 in
theorem writeNone (a : Addr) (base : Nat) (bs : List UInt8) (w : World) (hb : Buf 5 w base a bs) (hg1 : w.cell? ⟨0, 0, none⟩ = some (.int .i64 2147483647)) (hlen : bs.length ≤ 2147483647) :
    Calls Tryd.prog 17 #[.pointer (some a), .slice none 0 0] w fun e w' => e = .returned (.tuple #[]) ∧ Buf 5 w' base a bs ∧ Kept base a w w' := by
  have hB := hb
  obtain ⟨p, cap, h1, h2, h3, h4, h5, h6, h7⟩ := hb
  have hI := Lib.hid info5
  go_enter Tryd.func17, Tryd.ntmps17
  go_wp2
  go_quiet (fail)
  go_wp2_with ((at_builtin; refine append_none2 rfl _ _ 25 24 rfl base 5 Tryd.underlying25 Tryd.underlying24 hI.out p bs.length cap (bcells bs) rfl h3 rfl ?_))
  go_end0
  exact ⟨rfl, buf_set hB (below_drewN (Below.refl _ _) _) h3⟩

theorem write (a : Addr) (base : Nat) (bs cs : List UInt8) (p : Option Addr) (c : Nat) (w : World) (hb : Buf 5 w base a bs) (hs : Src w base a.block p cs) (hc : p = none → c = 0)
    (hg1 : w.cell? ⟨0, 0, none⟩ = some (.int .i64 2147483647)) (hlen : bs.length + cs.length ≤ 2147483647) :
    Calls Tryd.prog 17 #[.pointer (some a), .slice p cs.length c] w fun e w' => e = .returned (.tuple #[]) ∧ Buf 5 w' base a (bs ++ cs) ∧ Kept base a w w' := by
  rcases hs with ⟨rfl, rfl⟩ | ⟨bk, o, rfl, h1, h2, h3⟩
  · rw [hc rfl, List.append_nil]
    exact writeNone a base bs w hb hg1 (by omega)
  · exact writeSome a base bs cs bk o c w hb h3 hg1 hlen

/-- What RuneCount leaves of the world: as it was, or one iterator more. -/
def Iter1 (w w' : World) : Prop := w' = w ∨ ∃ t pos, w' = w.iter t pos

theorem runeCountNil (w : World) : Calls Tryd.prog 18 #[.slice none 0 0] w fun e w' => e = .returned (.int .i64 0) ∧ w = w' := by
  go_enter Tryd.func18, Tryd.ntmps18
  go_wp2
  go_loop [4] (fun n => n = .int .i64 0) (fun _ => 0)
  case atStart => rfl
  case round =>
    obtain rfl := hrel
    go_wp2
    go_ret
    exact ⟨rfl, rfl⟩

theorem strOfNums_bytes (t : ByteArray) : strOfNums (t.data.toList.map fun x => (x.toNat : Int)) = t := by
  cases t with
  | mk d =>
    have h : ∀ l : List UInt8, l.map ((fun n : Int => UInt8.ofNat n.toNat) ∘ fun x : UInt8 => (x.toNat : Int)) = l := by
      intro l
      induction l with
      | nil => rfl
      | cons x r ih => simp [ih]
    simp [strOfNums, h]
theorem runeCount_none (t : ByteArray) (h : t.size = 0) : Lib.runeCount t = 0 := by
  unfold Lib.runeCount
  rw [h]
  rfl

set_option maxHeartbeats 2000000 in
set_option maxRecDepth 1000000 in
theorem runeCountSome (s : ByteArray) (b off cap : Nat) (w : World) (hcap : s.size ≤ cap) (hp : ∀ j, j < s.size → w.cell? ⟨b, off + j, none⟩ = some (.int .u8 (s.get! j).toNat)) (hs : s.size < 9223372036854775807) :
    Calls Tryd.prog 18 #[.slice (some ⟨b, off, none⟩) s.size cap] w fun e w' => e = .returned (.int .i64 (Lib.runeCount s)) ∧ Iter1 w w' := by
  go_enter Tryd.func18, Tryd.ntmps18
  go_wp2
  go_loop [4] (fun n => ∃ k : Nat, k ≤ s.size ∧ n = .int .i64 k ∧ ∀ j, j < k → (s.get! j).toNat < 128) (fun n => s.size - (intOf n).toNat)
  case atStart => exact ⟨0, Nat.zero_le _, rfl, fun j hj => absurd hj (Nat.not_lt_zero _)⟩
  case round =>
    obtain ⟨k, hk, rfl, hasc⟩ := hrel
    by_cases hlt : k < s.size
    · have hcell := hp k hlt
      obtain ⟨y, hy⟩ : ∃ y, s.get! k = y := ⟨_, rfl⟩
      rw [hy] at hcell
      have hltz : (k : Int) < (s.size : Int) := by omega
      by_cases ha : y.toNat < 128
      · have haz : ¬ ((y.toNat : Int) ≥ 128) := by omega
        clear hp
        go_wp2
        go_round
        case rel =>
          refine ⟨k + 1, by omega, by go_num, fun j hj => ?_⟩
          by_cases hjk : j < k
          · exact hasc j hjk
          · have : j = k := by omega
            subst this
            rw [hy]; exact ha
        case measure => simp [intOf]; omega
      · have haz : (y.toNat : Int) ≥ 128 := by omega
        have hcv : ∀ c, (convert 24 9 (.slice (some ⟨b, off + k, none⟩) (s.size - k) c)).run Tryd.prog w = .ok (.string (s.extract k s.size)) w := fun c => by
          have := run_convert_bytes_arg (P := Tryd.prog) w 24 5 Tryd.underlying24 Tryd.underlying5 b (off + k) (s.size - k) c ((s.extract k s.size).data.toList.map fun x => (x.toNat : Int))
            (by rw [List.length_map, ← Lib.size_eq, Lib.tail_size])
            (fun i hi => by
              rw [Nat.add_assoc, hp (k + i) (by omega), ← Lib.tail_get!, ← Lib.getD_get!']
              generalize (s.extract k s.size).data.toList = l
              simp only [List.getD, List.getElem?_map]
              cases l[i]? <;> rfl)
            9 Tryd.underlying9
          rwa [strOfNums_bytes] at this
        have cR := Tryd.utf8_RuneCountInString (s.extract k s.size) w (by rw [Lib.tail_size]; omega)
        have hsp := Lib.runeCount_split s k hk hasc
        have hle := Lib.runeCount_le (s.extract k s.size)
        rw [Lib.tail_size] at hle
        generalize Lib.runeCount (s.extract k s.size) = c at *
        have HC := Lib.hid cR
        have HS := Lib.hid hsp
        clear hp cR hsp
        go_wp2_with ((go_at_call 15; refine HC.out.mono ?_; rintro e w' ⟨rfl, pos, rfl⟩))
        go_ret
        refine ⟨?_, Or.inr ⟨_, _, rfl⟩⟩
        rw [HS.out]; first | rfl | go_num
    · have hkk : k = s.size := by omega
      subst hkk
      have hge : ¬ ((s.size : Int) < (s.size : Int)) := by omega
      clear hp
      go_wp2
      go_ret
      refine ⟨?_, Or.inl rfl⟩
      rw [Lib.runeCount_split s s.size (Nat.le_refl _) hasc, runeCount_none _ (by rw [Lib.tail_size]; omega)]
      rfl

/-- The number of runes of a list of bytes. -/
def rcount (cs : List UInt8) : Nat := Lib.runeCount ⟨cs.toArray⟩
theorem rcount_le (cs : List UInt8) : rcount cs ≤ cs.length := by
  have := Lib.runeCount_le ⟨cs.toArray⟩
  simpa [rcount, ByteArray.size] using this

theorem iter1_below {w w' : World} (h : Iter1 w w') : Below w.heap.size w w' := by
  rcases h with rfl | ⟨t, pos, rfl⟩
  · exact Below.refl _ _
  · exact (Below.refl _ _).alloc (Nat.le_refl _) _

theorem runeCount (base k : Nat) (cs : List UInt8) (p : Option Addr) (c : Nat) (w : World) (hs : Src w base k p cs) (hc0 : p = none → c = 0) (hc : cs.length ≤ c) (hl : cs.length < 9223372036854775807) :
    Calls Tryd.prog 18 #[.slice p cs.length c] w fun e w' => e = .returned (.int .i64 (rcount cs)) ∧ Below w.heap.size w w' := by
  rcases hs with ⟨rfl, rfl⟩ | ⟨bk, o, rfl, h1, h2, h3⟩
  · rw [hc0 rfl]
    refine (runeCountNil w).mono ?_
    rintro e w' ⟨rfl, rfl⟩
    exact ⟨rfl, Below.refl _ _⟩
  · have e1 : (⟨cs.toArray⟩ : ByteArray).size = cs.length := by simp [ByteArray.size]
    have := runeCountSome ⟨cs.toArray⟩ bk o c w (by rw [e1]; exact hc) (fun j hj => by
      rw [e1] at hj
      rw [h3 j hj]
      have : (⟨cs.toArray⟩ : ByteArray).get! j = cs[j] := by
        show cs.toArray[j]! = cs[j]
        simp [hj]
      rw [this]) (by rw [e1]; exact hl)
    rw [e1] at this
    exact this.mono fun e w' ⟨he, hw⟩ => ⟨he, iter1_below hw⟩
end Go.Proofs.YtlekmfkcbgkfgaaDoor.Fm
