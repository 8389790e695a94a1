/- The laws' own table check, copy of integers, and assembler. -/
import Derived.Test.YtjnoodilpffbiaaFmtFmI
import Derived.Test.YtjnoodilpffbiaaFmtClone
namespace Go.Proofs.YtjnoodilpffbiaaFmt.Ft
open Go.ChangeShapes Go.WideShapes Go.ChangeAt Go.RowKit Go.Blk Go.Mk Go.LawFrame Go.Proofs.YtjnoodilpffbiaaFmt.Mk Go.Fmt Go.Proofs.YtjnoodilpffbiaaFmt.Fm

set_option maxRecDepth 100000 in
set_option maxHeartbeats 1000000 in
theorem tabSane (w : World) (htab : ∀ op, op < 42 → RowIs w 0 op (widthsOf op)) : Calls Tryf.prog 6 #[] w fun e w' => e = .returned (.bool true) ∧ w = w' := by
  have HT := Lib.hid htab
  clear htab
  go_enter Tryf.func6, Tryf.ntmps6
  go_wp2
  go_loop [2] (fun iv => ∃ k : Nat, k ≤ 42 ∧ iv = .int .i64 k) (fun iv => 42 - (intOf iv).toNat)
  case atStart => exact ⟨0, Nat.zero_le _, rfl⟩
  case round =>
    obtain ⟨k, hk, rfl⟩ := hrel
    by_cases hlt : k < 42
    · obtain ⟨az, capz, hz0, hz1, hz2, hz3⟩ := HT.out k hlt
      have hW := rows_ok k hlt
      obtain ⟨zs, hzs⟩ : ∃ zs, zs = widthsOf k := ⟨_, rfl⟩
      rw [← hzs] at hz0 hz3 hW
      have HW := Lib.hid hW
      have HZ := Lib.hid hz3
      have hzl := hW.1
      have s1 : (0 : Int) ≤ (k : Int) := by omega
      have s2 : (k : Int) < 42 := by omega
      have s3 : ¬ (2 : Int) < (zs.length : Int) := by omega
      clear hzs hW hz3 hz1
      go_wp2
      go_loop [4] (fun jv => ∃ j : Nat, j ≤ zs.length ∧ jv = .int .i64 j) (fun jv => zs.length - (intOf jv).toNat)
      case atStart => exact ⟨0, Nat.zero_le _, rfl⟩
      case round =>
        obtain ⟨j, hj, rfl⟩ := hrel
        by_cases hlj : j < zs.length
        · have hcj := HZ.out j hlj
          have hz := HW.out.2 zs[j] (List.getElem_mem _)
          obtain ⟨z, hzz⟩ : ∃ z, z = zs[j] := ⟨_, rfl⟩
          rw [← hzz] at hcj hz
          have HK := Lib.hid (widthOK z w hz)
          have s4 : (0 : Int) ≤ (j : Int) := by omega
          have s5 : (j : Int) < (zs.length : Int) := by omega
          clear hzz hz
          go_wp2_with (fail)
          refine HK.out.mono ?_
          rintro e w' ⟨rfl, rfl⟩
          go_wp2
          go_round
          case rel => exact ⟨j + 1, hlj, by go_num⟩
          case measure => simp [intOf]; omega
        · obtain rfl : j = zs.length := by omega
          go_wp2
          go_round
          case rel => exact ⟨k + 1, hlt, by go_num⟩
          case measure => simp [intOf]; omega
    · obtain rfl : k = 42 := by omega
      go_wp2
      go_ret
      exact ⟨rfl, rfl⟩

/-- A row of integers. -/
def Row64 (w : World) (p : Option Addr) (xs : List Int) : Prop := (p = none ∧ xs = []) ∨ ∃ x, p = some x ∧ ∀ j (hj : j < xs.length), w.cell? (x.add j) = some (.int .i64 xs[j])
theorem row64_of {w : World} {p : Option Addr} {len cap : Nat} {zs : List Int} (h : LawFrame.IsRow .i64 8 w p len cap zs) : ∃ xs, Row64 w p xs ∧ xs.length = len ∧ (p = none → cap = 0) ∧ len ≤ 140737488351232 := by
  rcases h with ⟨h1, h2, h3, h4⟩ | ⟨x, h1, h2, h3, h4, h5, h6⟩
  · exact ⟨[], .inl ⟨h1, rfl⟩, h2.symm, fun _ => h3, by omega⟩
  · refine ⟨zs.take len, .inr ⟨x, h1, fun j hj => ?_⟩, by simp; omega, (fun e => by rw [h1] at e; cases e), by omega⟩
    have hj' : j < zs.length := by simp at hj; omega
    rw [h5 j hj', List.getD_eq_getElem?_getD, List.getElem?_eq_getElem hj']
    simp
theorem Row64.old {w w' : World} {p : Option Addr} {xs : List Int} (h : Row64 w p xs) (hb : Below w.heap.size w w') : Row64 w' p xs := by
  rcases h with h | ⟨x, e, h⟩
  · exact .inl h
  · exact .inr ⟨x, e, fun j hj => (hb.cell (World.block_lt_of_cell? w _ (h j hj))).trans (h j hj)⟩
def CopyOf64 (w : World) (xs : List Int) (e : Ending) (w' : World) : Prop := ∃ q c, e = .returned (.slice q xs.length c) ∧ Row64 w' q xs ∧ Below w.heap.size w w'
theorem row64_own {w : World} {base g n : Nat} {e : TypeId} {xs : List Int} (h : w.ownsRow base e 1 (.slice (some ⟨g, 0, none⟩) xs.length n) xs.length (xs.map (.int .i64))) : Row64 w (some ⟨g, 0, none⟩) xs := by
  refine .inr ⟨_, rfl, fun j hj => ?_⟩
  exact h.cells (g := g) rfl j _ (by simp [List.getElem?_eq_getElem hj])

set_option maxRecDepth 100000 in
set_option maxHeartbeats 1000000 in
theorem clone64 (p : Option Addr) (cap : Nat) (xs : List Int) (w : World) (h : Row64 w p xs) (hl : xs.length ≤ 1048576) (hc : p = none → cap = 0) : Calls Tryf.prog 8 #[.slice p xs.length cap] w (CopyOf64 w xs) := by
  have he : ∀ p l c w, (binOp .eql 23 (.slice p l c) (.slice none 0 0)).run Tryf.prog w = .ok (.bool p.isNone) w := fun p l c w => by cases p <;> rfl
  obtain ⟨i3, hi, hz0, hz1, hz2⟩ := info_parts info3
  have HI := Lib.hid (And.intro hi (And.intro hz0 (And.intro hz1 hz2)))
  clear hi hz0 hz1 hz2
  rcases h with ⟨rfl, rfl⟩ | ⟨x, rfl, hx⟩
  · obtain rfl := hc rfl
    have he1 := he none 0 0
    clear he hc
    go_enter Tryf.func8, Tryf.ntmps8
    go_wp2
    go_ret
    exact ⟨none, 0, rfl, .inl ⟨rfl, rfl⟩, Below.refl _ _⟩
  · have he1 := he (some x) xs.length cap
    have HX := Lib.hid hx
    clear he hc hx
    go_enter Tryf.func8, Tryf.ntmps8
    go_wp2_with ((at_make; refine wpList_make_full _ rfl _ _ 23 rfl w.heap.size 3 i3 (.int .i64 0) 1 Tryf.underlying23 HI.out.1 HI.out.2.1 HI.out.2.2.1 .i64 .i64 _ _ xs.length rfl rfl rfl rfl (by rw [HI.out.2.2.2]; omega) (by unfold maxLen; omega) (Nat.le_refl _) ?_; intro w1 hown1 hgrow1))
    have hb1 : Below w.heap.size w w1 := (Below.refl _ _).grown hgrow1 (Nat.le_refl _) (fun k hk => by cases hk)
    have hown0 := own_take hown1 (Nat.zero_le _)
    clear hgrow1 hown1
    go_loopw [4] (fun i wr => ∃ k : Nat, k ≤ xs.length ∧ i = .int .i64 k ∧ wr.ownsRow w.heap.size 3 1 (.slice (some ⟨w.heap.size, 0, none⟩) k xs.length) k ((xs.take k).map (.int .i64)) ∧ Below w.heap.size w wr) (fun i _ => xs.length - (intOf i).toNat)
    case atStart => exact ⟨0, Nat.zero_le _, rfl, by simpa using hown0, hb1⟩
    case round =>
      obtain ⟨k, hk, rfl, hown, hb⟩ := hrel
      have hbs := hb.size
      by_cases hlt : k < xs.length
      · have hc0 := HX.out k hlt
        have hcx := (hb.cell (World.block_lt_of_cell? w _ hc0)).trans hc0
        obtain ⟨⟨v, hcv⟩, hfv⟩ := own_cell hown (j := k) hlt
        have HE := Lib.hid (show (xs.take (k + 1)).map (Value.int .i64) = (xs.take k).map (.int .i64) ++ [.int .i64 xs[k]] by rw [List.take_succ_eq_append_getElem hlt, List.map_append]; rfl)
        clear hc0
        go_wp2
        go_roundw
        case rel =>
          refine ⟨k + 1, hlt, by go_num, ?_, hb.setCell (Nat.le_refl _) _⟩
          rw [HE.out]
          exact own_set (.int .i64 xs[k]) hown hlt
        case measure => simp [intOf]; omega
      · obtain rfl : k = xs.length := by omega
        go_wp2
        go_ret
        exact ⟨_, _, rfl, row64_own (by simpa using hown), hb⟩
end Go.Proofs.YtjnoodilpffbiaaFmt.Ft
