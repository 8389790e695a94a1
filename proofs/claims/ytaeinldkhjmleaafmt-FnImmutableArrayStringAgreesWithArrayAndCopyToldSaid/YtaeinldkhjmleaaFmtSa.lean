/- The law FnImmutableArrayStringAgreesWithArrayAndCopy: its walk, at every table of powers of ten. -/
import Derived.Test.YtaeinldkhjmleaaFmtSt
import Derived.Deep.RegionHeld3
import Derived.BigRegion
import Derived.Deep.RegionLaw
import Derived.Laws.OwnMore
namespace Go.Proofs.YtaeinldkhjmleaaFmt.Ob
open Go.ChangeShapes Go.WideShapes Go.ChangeAt Go.RowKit Go.Blk Go.Proofs.YtaeinldkhjmleaaFmt.Fi Go.Proofs.YtaeinldkhjmleaaFmt.Ft
theorem m_astr (a : Addr) (w : World) : (method 216 34 (.pointer (some a)) "String").run Tryf.prog w = .ok (10, .pointer (some a)) w := by kernel_rfl
theorem ta_imm (a : Addr) (w : World) : (Instr.typeAssert (.iface 24 (.pointer (some a))) 37 24 true).run Tryf.prog w = .ok (.tuple #[.pointer (some a), .bool true]) w := by kernel_rfl
theorem own_of_blk {w : World} {base G : Nat} {vs : List Value} (h : Blk w G 37 vs) (hb : base ≤ G) (hl : vs.length ≤ maxLen) : w.ownsRow base 37 1 (.slice (some ⟨G, 0, none⟩) vs.length vs.length) vs.length vs :=
  ⟨by simp, .inr ⟨G, vs.length, vs.toArray, rfl, hb, h, Nat.le_refl _, hl, by simp, by simp⟩⟩
theorem alloc_keep {w : World} {p : Addr} {v : Value} (o : Obj) (h : w.cell? p = some v) : (w.alloc o).cell? p = some v :=
  (((Below.refl _ w).alloc (Nat.le_refl _) o).cell (World.block_lt_of_cell? w _ h)).trans h
theorem step_append_none {P : Program} {ops : Array Oper} {o : Oper} {a : Act} {w : World} {K : Act → World → Prop} {Q : Exit → Act → World → Prop} {E : Prop}
    (hg : o.guard = none) (s x : Operand) (t : TypeId) (hop : o.op = Op.call { callee := Callee.builtin Builtin.append, args := #[s, x], argTypes := #[t, t] })
    (base : Nat) (e : TypeId) (i : TypeInfo) (size : Nat) (h1 : P.underlying t = some (.slice e)) (h2 : P.info? e = some i) (v : Value) (n : Nat) (xs : List Value) (hs : a.eval s = v) (hown : w.ownsRow base e size v n xs) (hx : a.eval x = .slice none 0 0)
    (hK : K (a.put o.dst v) w) : if Region.wanted o (yielded ops a.tmps) = true then Oper.wp P o a w K Q else E := by
  have hw : Region.wanted o (yielded ops a.tmps) = true := by simp [Region.wanted, hg]
  rw [if_pos hw]
  have hrun := run_append_owned_none (P := P) (w := w) base t o.type e i size h1 h2 v n xs hown
  unfold Oper.wp
  simp [execOp, hop, resolve, invoke, builtin, hs, hx, hrun, Result.andThen]
  exact hK
set_option maxRecDepth 100000 in
set_option maxHeartbeats 2000000 in
theorem binNil (B G B2 : Nat) (bs : List Nat) (w : World) (hB : w.cell? ⟨B, 0, none⟩ = some (.slice (some ⟨G, 0, none⟩) bs.length bs.length)) (hB2 : w.cell? ⟨B2, 0, none⟩ = some (.slice none 0 0)) (hG : Blk w G 37 (ifs bs)) (hl : bs.length ≤ 1048576) :
    Calls Tryf.prog 12 #[.pointer (some ⟨B, 0, none⟩), .int .i64 11, .iface 24 (.pointer (some ⟨B2, 0, none⟩))] w fun e w' => e = .returned (.tuple #[.iface 34 (.pointer (some ⟨w.heap.size, 0, none⟩)), .nilIface]) ∧ w'.cell? ⟨w.heap.size, 0, none⟩ = some (.slice (some ⟨G, 0, none⟩) bs.length bs.length) ∧ Below w.heap.size w w' := by
  have ta := ta_imm
  obtain ⟨i3, hi, hz0, hz1, hz2⟩ := info_parts infoO
  have HI := Lib.hid hi
  have hown : w.ownsRow 0 37 1 (.slice (some ⟨G, 0, none⟩) bs.length bs.length) bs.length (ifs bs) := by
    have h := own_of_blk hG (Nat.zero_le _) (by rw [ifs_length]; unfold maxLen; omega)
    rwa [ifs_length] at h
  have HO := Lib.hid hown
  clear hi hz0 hz1 hz2 hG hown
  go_enter Tryf.func12, Tryf.ntmps12
  go_wp2
  go_region_held3 (fun w' => w'.cell? ⟨B, 0, none⟩ = some (.slice (some ⟨G, 0, none⟩) bs.length bs.length) ∧ w'.cell? ⟨B2, 0, none⟩ = some (.slice none 0 0)) (first | exact ⟨hB, hB2⟩ | exact ⟨alloc_keep _ hB, alloc_keep _ hB2⟩)
    ((refine step_append_none (by rfl) _ _ _ (by rfl) 0 37 i3 1 Tryf.underlying25 HI.out (.slice (some ⟨G, 0, none⟩) bs.length bs.length) bs.length (ifs bs) (by rfl) HO.out.drew (by rfl) ?_))
  all_goals
    go_wp2
    go_ret2
    exact ⟨rfl, (blk_alloc w.drew [.slice (some ⟨G, 0, none⟩) bs.length bs.length] 35).cell? 0, (Below.refl _ _).drew.alloc (Nat.le_refl _) _⟩
theorem guardSA (p : Option Addr) (l c : Nat) (w : World) (hsz : l ≤ 140737488351232) : Calls Tryf.prog 9 #[.slice p l c] w fun e w' => e = .returned (.bool (decide (l ≤ 1048576))) ∧ w = w' := by
  by_cases h1 : l ≤ 1048576
  all_goals
    go_enter Tryf.func9, Tryf.ntmps9
    go_wp2
    go_ret
    exact ⟨by simp [h1], rfl⟩
/-- An array of Int objects that stands. -/
structure O1 (W : World) (B G : Nat) (bs : List Nat) (xs : List Int) : Prop where
  blk : Blk W G 37 (ifs bs)
  ints : IntsO W bs xs
  cell : W.cell? ⟨B, 0, none⟩ = some (.slice (some ⟨G, 0, none⟩) xs.length xs.length)
theorem O1.old {W W' : World} {B G : Nat} {bs : List Nat} {xs : List Int} (h : O1 W B G bs xs) (hb : Below W.heap.size W W') : O1 W' B G bs xs :=
  ⟨h.blk.old hb, h.ints.old hb, (hb.cell (World.block_lt_of_cell? W _ h.cell)).trans h.cell⟩
theorem O1.row {W : World} {B G : Nat} {bs : List Nat} {xs : List Int} (h : O1 W B G bs xs) : ∀ j (hj : j < bs.length), ∃ g, some (⟨G, 0, none⟩ : Addr) = some ⟨g, 0, none⟩ ∧ W.cell? ⟨g, j, none⟩ = some (.iface 44 (.pointer (some ⟨bs[j], 0, none⟩))) := fun j hj =>
  ⟨G, rfl, by rw [h.blk.cell?]; simp [ifs, List.getElem?_eq_getElem hj]⟩
theorem O1.make {w1 : World} {G : Nat} {bs : List Nat} {xs : List Int} (hg : Blk w1 G 37 (ifs bs)) (hi : IntsO w1 bs xs) (S : TypeId) : O1 (w1.alloc (.cells #[.slice (some ⟨G, 0, none⟩) xs.length xs.length] S)) w1.heap.size G bs xs :=
  have hb : Below w1.heap.size w1 (w1.alloc (.cells #[.slice (some ⟨G, 0, none⟩) xs.length xs.length] S)) := (Below.refl _ _).alloc (Nat.le_refl _) _
  ⟨hg.old hb, hi.old hb, (blk_alloc w1 [_] S).cell? 0⟩
set_option maxRecDepth 100000 in
set_option maxHeartbeats 8000000 in
theorem saMain (F : Stop.Interp) (T : Nat → Int) (p : Option Addr) (c : Nat) (xs : List Int) (w : World) (hF : F.answers w.tape) (hT : Tab T w) (hx : RowI w p xs) (hv : ∀ v ∈ xs, -9223372036854775808 ≤ v ∧ v ≤ 9223372036854775807) (hl : xs.length ≤ 131072) :
    Calls Tryf.prog 4 #[.slice p xs.length c] w fun e w' => e = .returned (.bool true) ∧ Below w.heap.size w w' := by
  have HG : Hid (decide (xs.length ≤ 1048576) = true) := Lib.hid (by simp; omega)
  have HX := Lib.hid hx
  have HF := Lib.hid hF
  have HT := Lib.hid hT
  have HV := Lib.hid hv
  have hm := m_astr
  have HC1 := Lib.hid (intObjects p c xs w hx (by omega))
  clear hx hF hT hv
  go_enter Tryf.func4, Tryf.ntmps4
  go_wp2_with (fail)
  refine (guardSA _ _ _ _ (by omega)).mono ?_
  rintro e w' ⟨rfl, rfl⟩
  rw [HG.out]
  go_wp2_with (fail)
  refine HC1.out.mono ?_
  rintro e w1 ⟨G1, bs, rfl, hg1, hi1, hG1, hbs1, hb1⟩
  have HO2 := Lib.hid (O1.make hg1 hi1 30)
  have hb2 : Below w.heap.size w (w1.alloc (.cells #[.slice (some ⟨G1, 0, none⟩) xs.length xs.length] 30)) := hb1.alloc hb1.size _
  have HB2 := Lib.hid hb2
  clear hg1 hi1 hG1 hbs1 hb1 hb2 HC1
  obtain ⟨s, hs⟩ : ∃ s, s = out F T xs := ⟨_, rfl⟩
  have HS := Lib.hid hs
  clear hs
  go_wp2_with (fail)
  obtain ⟨B, hB⟩ : ∃ B, B = w1.heap.size := ⟨_, rfl⟩
  obtain ⟨w2, hw2⟩ : ∃ w2, w2 = w1.alloc (.cells #[.slice (some ⟨G1, 0, none⟩) xs.length xs.length] 30) := ⟨_, rfl⟩
  rw [← hw2] at HO2 HB2 ⊢
  rw [← hB] at HO2 ⊢
  clear hw2 hB
  refine (immString F T B (some ⟨G1, 0, none⟩) xs.length bs xs w2 (by rw [HB2.out.tape]; exact HF.out) HO2.out.cell HO2.out.row HO2.out.ints hl HV.out (HT.out.old HB2.out)).mono ?_
  rintro e w3 ⟨rfl, hb3⟩
  rw [← HS.out]
  have HB3 : Hid (Below w.heap.size w w3) := Lib.hid (HB2.out.trans (hb3.mono HB2.out.size))
  have HO3 := Lib.hid (HO2.out.old hb3)
  clear hb3 HO2 HB2
  have HC2 := Lib.hid (intObjects p c xs w3 (HX.out.old HB3.out) (by omega))
  go_wp2_with (fail)
  refine HC2.out.mono ?_
  rintro e w4 ⟨G2, ds, rfl, hg2, hi2, hG2, hbs2, hb4⟩
  have HP5 := Lib.hid (O1.make hg2 hi2 35)
  have hb5 : Below w3.heap.size w3 (w4.alloc (.cells #[.slice (some ⟨G2, 0, none⟩) xs.length xs.length] 35)) := hb4.alloc hb4.size _
  have HB5 : Hid (Below w.heap.size w (w4.alloc (.cells #[.slice (some ⟨G2, 0, none⟩) xs.length xs.length] 35))) := Lib.hid (HB3.out.trans (hb5.mono HB3.out.size))
  have HO5 := Lib.hid (HO3.out.old hb5)
  clear hg2 hi2 hG2 hbs2 hb4 hb5 HC2 HO3 HB3
  go_wp2_with (fail)
  obtain ⟨B5, hB5⟩ : ∃ B, B = w4.heap.size := ⟨_, rfl⟩
  obtain ⟨w5, hw5⟩ : ∃ w2, w2 = w4.alloc (.cells #[.slice (some ⟨G2, 0, none⟩) xs.length xs.length] 35) := ⟨_, rfl⟩
  rw [← hw5] at HP5 HB5 HO5 ⊢
  rw [← hB5] at HP5 ⊢
  clear hw5 hB5
  refine (arrString F T B5 (some ⟨G2, 0, none⟩) xs.length ds xs w5 (by rw [HB5.out.tape]; exact HF.out) HP5.out.cell HP5.out.row HP5.out.ints hl HV.out (HT.out.old HB5.out)).mono ?_
  rintro e w6 ⟨rfl, hb6⟩
  rw [← HS.out]
  have HB6 : Hid (Below w.heap.size w w6) := Lib.hid (HB5.out.trans (hb6.mono HB5.out.size))
  have HO6 := Lib.hid (HO5.out.old hb6)
  clear hb6 HO5 HP5 HB5
  have HCP := Lib.hid (arrCopy B G1 xs.length bs xs w6 HO6.out.cell (fun j hj => by obtain ⟨g, hg, hc⟩ := HO6.out.row j hj; cases hg; exact hc) HO6.out.ints (by omega))
  go_wp2_with (fail)
  refine HCP.out.mono ?_
  rintro e w7 ⟨B7, q7, cap7, cs7, rfl, hB7, hB7w, hc7, hown7, hi7, hcs7, hb7⟩
  have HB7 : Hid (Below w.heap.size w w7) := Lib.hid (HB6.out.trans (hb7.mono HB6.out.size))
  have HO7 := Lib.hid (HO6.out.old hb7)
  have hrow7 : ∀ j (hj : j < cs7.length), ∃ g, q7 = some ⟨g, 0, none⟩ ∧ w7.cell? ⟨g, j, none⟩ = some (.iface 44 (.pointer (some ⟨cs7[j], 0, none⟩))) := fun j hj => by
    have hlen := hi7.1
    rcases hown7.2 with ⟨e1, e2⟩ | ⟨g, cap, cur, e1, _⟩
    · omega
    · cases e1
      refine ⟨g, rfl, ?_⟩
      have h1 := hown7.cells (g := g) rfl j (.iface 44 (.pointer (some ⟨cs7[j], 0, none⟩))) (by simp [ifs, List.getElem?_eq_getElem hj])
      rw [← h1, Lib.add_plain, Nat.zero_add]
  have HR7 := Lib.hid hrow7
  have HI7 := Lib.hid hi7
  have HCL7 := Lib.hid hc7
  clear hrow7 hi7 hc7 hown7 hcs7 hb7 HO6 HB6 hB7 hB7w HCP
  go_wp2_with (fail)
  refine (arrString F T B7 q7 cap7 cs7 xs w7 (by rw [HB7.out.tape]; exact HF.out) HCL7.out HR7.out HI7.out hl HV.out (HT.out.old HB7.out)).mono ?_
  rintro e w8 ⟨rfl, hb8⟩
  rw [← HS.out]
  have HB8 : Hid (Below w.heap.size w w8) := Lib.hid (HB7.out.trans (hb8.mono HB7.out.size))
  have HO8 := Lib.hid (HO7.out.old hb8)
  clear hb8 HO7 HR7 HI7 HCL7 HB7
  have hb9 : Below w8.heap.size w8 (w8.alloc (.cells #[.slice none 0 0] 30)) := (Below.refl _ _).alloc (Nat.le_refl _) _
  have HO9 := Lib.hid (HO8.out.old hb9)
  have HB9 : Hid (Below w.heap.size w (w8.alloc (.cells #[.slice none 0 0] 30))) := Lib.hid (HB8.out.trans (hb9.mono HB8.out.size))
  have HN9 : Hid ((w8.alloc (.cells #[.slice none 0 0] 30)).cell? ⟨w8.heap.size, 0, none⟩ = some (.slice none 0 0)) := Lib.hid ((blk_alloc w8 [.slice none 0 0] 30).cell? 0)
  clear hb9 HO8 HB8
  go_wp2_with (fail)
  obtain ⟨B9, hB9⟩ : ∃ B, B = w8.heap.size := ⟨_, rfl⟩
  obtain ⟨w9, hw9⟩ : ∃ w2, w2 = w8.alloc (.cells #[.slice none 0 0] 30) := ⟨_, rfl⟩
  rw [← hw9] at HO9 HB9 HN9 ⊢
  rw [← hB9] at HN9 ⊢
  clear hw9 hB9
  have hbl : bs.length = xs.length := HO9.out.ints.1
  refine (binNil B G1 B9 bs w9 (by rw [hbl]; exact HO9.out.cell) HN9.out HO9.out.blk (by omega)).mono ?_
  rintro e w10 ⟨rfl, hc10, hb10⟩
  rw [hbl] at hc10
  obtain ⟨B10, hB10⟩ : ∃ B, B = w9.heap.size := ⟨_, rfl⟩
  rw [← hB10] at hc10 ⊢
  have HB10 : Hid (Below w.heap.size w w10) := Lib.hid (HB9.out.trans (hb10.mono HB9.out.size))
  have HO10 := Lib.hid (HO9.out.old hb10)
  have HC10 := Lib.hid hc10
  clear hB10 hc10 hb10 hbl HN9 HO9 HB9
  go_wp2_with (fail)
  refine (arrString F T B10 (some ⟨G1, 0, none⟩) xs.length bs xs w10 (by rw [HB10.out.tape]; exact HF.out) HC10.out HO10.out.row HO10.out.ints hl HV.out (HT.out.old HB10.out)).mono ?_
  rintro e w11 ⟨rfl, hb11⟩
  rw [← HS.out]
  have HB11 : Hid (Below w.heap.size w w11) := Lib.hid (HB10.out.trans (hb11.mono HB10.out.size))
  have HO11 := Lib.hid (HO10.out.old hb11)
  clear hb11 HO10 HC10 HB10
  go_wp2_with (fail)
  refine (immString F T B (some ⟨G1, 0, none⟩) xs.length bs xs w11 (by rw [HB11.out.tape]; exact HF.out) HO11.out.cell HO11.out.row HO11.out.ints hl HV.out (HT.out.old HB11.out)).mono ?_
  rintro e w12 ⟨rfl, hb12⟩
  rw [← HS.out]
  have HB12 : Hid (Below w.heap.size w w12) := Lib.hid (HB11.out.trans (hb12.mono HB11.out.size))
  clear hb12 HO11 HB11
  go_wp2
  go_ret
  exact ⟨rfl, HB12.out⟩
end Go.Proofs.YtaeinldkhjmleaaFmt.Ob
