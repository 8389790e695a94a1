/- The law FnFormatInstructionsSplitsAtBoundary: its walk, whole. -/
import Derived.Test.YtjnoodilpffbiaaFmtSpl
namespace Go.Proofs.YtjnoodilpffbiaaFmt.Ft
open Go.ChangeShapes Go.WideShapes Go.ChangeAt Go.RowKit Go.Blk Go.Mk Go.LawFrame Go.Extern.Stop Go.Stop Go.Proofs.YtjnoodilpffbiaaFmt.Mk Go.Fmt Go.Proofs.YtjnoodilpffbiaaFmt.Fm

theorem one_bytes (l : List Int) : ∀ u ∈ Mk.bytes l, u.oneCell' = true := by
  intro u hu
  obtain ⟨x, _, rfl⟩ := List.mem_map.1 hu
  rfl
set_option maxRecDepth 100000 in
set_option maxHeartbeats 4000000 in
theorem splMain (F : Interp) (nm : Nat → ByteArray) (p p2 pa : Option Addr) (c cc ca : Nat) (os os2 : List UInt8) (xs : List Int) (z : Int) (w : World) (hF : F.answers w.tape) (hq : RowAt w p os.length os) (hc : p = none → c = 0) (hq2 : RowAt w p2 os2.length os2) (hc2 : p2 = none → cc = 0) (hx : Row64 w pa xs) (hcx : pa = none → ca = 0)
    (h1 : os.length ≤ 65536) (h1' : os2.length ≤ 65536) (h2 : xs.length ≤ 65536) (h3 : os.length + os2.length + 8 * xs.length ≤ 1048576) (ht : Tabs w nm) :
    Calls Tryf.prog 4 #[.slice p os.length c, .slice p2 os2.length cc, .slice pa xs.length ca, .int .i64 z] w fun e w' => e = .returned (.bool true) ∧ Below w.heap.size w w' := by
  obtain ⟨i8, hi8⟩ := info_parts Fm.info5
  have H8 := Lib.hid hi8
  have HG := Lib.hid (guardSpl p p2 pa os.length c os2.length cc xs.length ca z true w (by omega) (by omega) (by omega) (by simp; omega))
  have HS := Lib.hid (tabSane w ht.1)
  have HC := Lib.hid (zzClone p os.length c os w hq (by omega) hc)
  have HQ2 := Lib.hid hq2
  have HC2 := Lib.hid hc2
  have HX := Lib.hid hx
  have HT := Lib.hid ht
  have HF := Lib.hid hF
  have HCX := Lib.hid hcx
  have e1 : (os.length : Int) + (os2.length : Int) + 8 * (xs.length : Int) ≤ 1048576 := by omega
  have e2 : (os.length : Int) ≤ 65536 := by omega
  have e2' : (os2.length : Int) ≤ 65536 := by omega
  have e3 : (xs.length : Int) ≤ 65536 := by omega
  clear hF hq hc hq2 hc2 hx hcx ht hi8
  go_enter Tryf.func4, Tryf.ntmps4
  go_wp2_with (fail)
  refine HG.out.mono ?_
  rintro e w' ⟨rfl, rfl⟩
  go_wp2_with (fail)
  refine HS.out.mono ?_
  rintro e w' ⟨rfl, rfl⟩
  go_wp2_with (fail)
  refine HC.out.mono ?_
  intro e w1 hcp
  obtain ⟨q, c1, rfl, hr1, _, hb1⟩ := copy_of hcp
  have HR1 := Lib.hid hr1
  have HB1 := Lib.hid hb1
  have HCB := Lib.hid (zzClone p2 os2.length cc os2 w1 (HQ2.out.old hb1) (by omega) HC2.out)
  clear hcp hr1 hb1 HG HS HC
  go_wp2_with (fail)
  refine HCB.out.mono ?_
  intro e w2 hcp
  obtain ⟨qb, cb1, rfl, hr2, _, hb2⟩ := copy_of hcp
  have HB2 : Hid (Below w.heap.size w w2) := Lib.hid (HB1.out.trans (hb2.mono HB1.out.size))
  have HR1' := Lib.hid (HR1.out.old hb2)
  have HR2 := Lib.hid hr2
  have HX1 := Lib.hid (clone64 pa ca xs w2 (HX.out.old HB2.out) (by omega) HCX.out)
  clear hcp hr2 hb2 HCB HR1 HB1
  go_wp2_with (fail)
  refine HX1.out.mono ?_
  rintro e w3 ⟨q2, c2, rfl, hr3, hb3⟩
  have HB3 : Hid (Below w.heap.size w w3) := Lib.hid (HB2.out.trans (hb3.mono HB2.out.size))
  have HASM : Hid (Calls Tryf.prog 9 #[.slice q os.length c1, .slice q2 xs.length c2, .int .i64 0] w3 (AsmOf w3 os.length 0)) := Lib.hid (asm os xs 0 q q2 c1 c2 w3 (HR1'.out.old hb3) hr3 (by omega) (by omega) (by omega) (HT.out.old HB3.out).1)
  have HRB := Lib.hid (HR2.out.old hb3)
  have HRX := Lib.hid hr3
  clear hr3 hb3 HX1 HR1' HR2 HB2
  go_wp2_with (fail)
  refine HASM.out.mono ?_
  rintro e w4 ⟨iA, vA, nx, rfl, hnA, hIA, hflA, hnx, hownA, hb4⟩
  have HB4 : Hid (Below w.heap.size w w4) := Lib.hid (HB3.out.trans (hb4.mono HB3.out.size))
  obtain ⟨bA, hbA⟩ : ∃ b, b = Mk.bytes iA.flatten := ⟨_, rfl⟩
  have hfA : iA.flatten.length = bA.length := by rw [hbA, Mk.bytes, List.length_map]
  rw [hfA] at hownA hflA
  rw [← hbA] at hownA
  obtain ⟨qA, cA, rfl, _, _⟩ := own_form hownA
  have HASB := Lib.hid (asm os2 xs nx qb q2 cb1 c2 w4 (HRB.out.old hb4) (HRX.out.old hb4) (by omega) (by omega) (by omega) (HT.out.old HB4.out).1)
  have HNA := Lib.hid hnA
  have HIA := Lib.hid hIA
  have HBA := Lib.hid hbA
  have HFA := Lib.hid hfA
  have HOA := Lib.hid hownA
  clear hnA hIA hbA hfA hownA hb4 HASM HRB HRX HB3
  go_wp2_with (fail)
  refine HASB.out.mono ?_
  rintro e w5 ⟨iB, vB, nx2, rfl, hnB, hIB, hflB, _, hownB, hb5⟩
  have HB45 := Lib.hid hb5
  have HB5 : Hid (Below w.heap.size w w5) := Lib.hid (HB4.out.trans (hb5.mono HB4.out.size))
  obtain ⟨bB, hbB⟩ : ∃ b, b = Mk.bytes iB.flatten := ⟨_, rfl⟩
  have hfB : iB.flatten.length = bB.length := by rw [hbB, Mk.bytes, List.length_map]
  rw [hfB] at hownB hflB
  rw [← hbB] at hownB
  obtain ⟨qB, cB, rfl, _, _⟩ := own_form hownB
  have HNB := Lib.hid hnB
  have HIB := Lib.hid hIB
  have HBB := Lib.hid hbB
  have HFB := Lib.hid hfB
  have HOB := Lib.hid hownB
  have HOA5 : Hid (w5.ownsRow w3.heap.size 5 1 (.slice qA bA.length cA) bA.length bA) := Lib.hid (Go.Fmt.ownsRow_below HOA.out (fun k hk => hb5.block k (HOA.out.lt k hk).2))
  obtain ⟨w6, m6, o6, y6⟩ := run_make_own (P := Tryf.prog) w5 0 22 5 i8 (.int .u8 0) 1 Tryf.underlying22 H8.out.1 H8.out.2.1 H8.out.2.2.1 .i64 .i64 (bA.length + bB.length) (by rw [H8.out.2.2.2]; omega) (by unfold maxLen; omega) (Nat.zero_le _)
  push_cast at m6
  have hb6 : Below w5.heap.size w5 w6 := (Below.refl _ _).grown y6 (Nat.le_refl _) (fun k hk => by cases hk)
  have HSA : Hid (SrcB w6 qA cA bA) := Lib.hid ((src_of HOA5.out rfl).keep (fun a v h => (hb6.cell (World.block_lt_of_cell? w5 _ h)).trans h))
  have HSB := Lib.hid (src_of HOB.out rfl)
  have HO6 := Lib.hid o6
  have HB6 := Lib.hid hb6
  have HONA : Hid (∀ u ∈ bA, u.oneCell' = true) := Lib.hid (by rw [HBA.out]; exact one_bytes _)
  have HONB : Hid (∀ u ∈ bB, u.oneCell' = true) := Lib.hid (by rw [HBB.out]; exact one_bytes _)
  clear hnB hIB hbB hfB hownB hb5 o6 y6 hb6 HASB
  go_upto_region 20 with ((at_builtin; refine wpList_app rfl _ _ 22 rfl 5 i8 (.int .u8 0) Tryf.underlying22 H8.out.1 H8.out.2.1 H8.out.2.2.1 H8.out.2.2.2 rfl (.slice (some ⟨w5.heap.size, 0, none⟩) 0 (bA.length + bB.length)) 0 [] rfl HO6.out qA cA bA rfl HSA.out HONA.out (by omega) ?_; intro p7 c7 w7 hown7 hgrow7 hat7; simp only [Nat.zero_add, List.nil_append] at hown7 hat7; have HO7 := Lib.hid hown7; have HG7 := Lib.hid hgrow7; have HA7 := Lib.hid hat7; clear hown7 hgrow7 hat7))
  have hb57 : Below w5.heap.size w5 w7 := HB6.out.grown HG7.out HB6.out.size (fun k hk => by simp [Value.ownBlock] at hk; omega)
  have HSB7 : Hid (SrcB w7 qB cB bB) := Lib.hid (HSB.out.keep (fun a v h => (hb57.cell (World.block_lt_of_cell? w5 _ h)).trans h))
  have HB57 := Lib.hid hb57
  clear hb57 HSA HSB m6
  go_upto_region 21 with ((at_builtin; refine wpList_app rfl _ _ 22 rfl 5 i8 (.int .u8 0) Tryf.underlying22 H8.out.1 H8.out.2.1 H8.out.2.2.1 H8.out.2.2.2 rfl (.slice p7 bA.length c7) bA.length bA rfl HO7.out qB cB bB rfl HSB7.out HONB.out (by omega) ?_; intro p8 c8 w8 hown8 hgrow8 hat8; have HO8 := Lib.hid hown8; have HG8 := Lib.hid hgrow8; clear hown8 hgrow8 hat8))
  have hb58 : Below w5.heap.size w5 w8 := HB57.out.grown HG8.out HB57.out.size (fun k hk => by
    have h6 := HB6.out.size
    rcases HA7.out with e | e
    · rw [e] at hk; simp [Value.ownBlock] at hk; omega
    · rw [e] at hk; simp at hk; omega)
  have HB58 := Lib.hid hb58
  have HB8 : Hid (Below w.heap.size w w8) := Lib.hid (HB5.out.trans (hb58.mono HB5.out.size))
  have hfAB : (iA ++ iB).flatten.length = bA.length + bB.length := by rw [List.flatten_append, List.length_append, HFA.out, HFB.out]
  have hbAB : Mk.bytes (iA ++ iB).flatten = bA ++ bB := by rw [HBA.out, HBB.out, List.flatten_append, Mk.bytes, List.map_append]; rfl
  have hnAB : (iA ++ iB).length = os.length + os2.length := by rw [List.length_append, HNA.out, HNB.out]
  have HFW : Hid (Calls Tryf.prog 10 #[.slice p8 (bA.length + bB.length) c8, .int .i64 z] w8 (FmtOf F nm z (iA ++ iB) w8)) := Lib.hid (fmtV F nm (iA ++ iB) (fun i hi => by
    rcases List.mem_append.1 hi with hi | hi
    · exact HIA.out i hi
    · exact HIB.out i hi) z _ 0 w8 (by rw [HB8.out.tape]; exact HF.out) (by rw [hfAB, hbAB]; exact HO8.out) (by omega) (by omega) (HT.out.old HB8.out))
  have HNAB := Lib.hid hnAB
  clear hb58 hfAB hbAB hnAB HO7 HG7 HA7 HO6 HB6 HSB7 HB57 HO8 HG8
  go_wp2_with (fail)
  refine HFW.out.mono ?_
  rintro e w9 ⟨q9, c9, rfl, hr9, hb9⟩
  rw [HNAB.out] at hr9 ⊢
  have HR9 := Lib.hid hr9
  have HB9 : Hid (Below w.heap.size w w9) := Lib.hid (HB8.out.trans (hb9.mono HB8.out.size))
  have HB59 : Hid (Below w5.heap.size w5 w9) := Lib.hid (HB58.out.trans (hb9.mono HB58.out.size))
  have hoA9 : w9.ownsRow w3.heap.size 5 1 (.slice qA bA.length cA) bA.length bA := Go.Fmt.ownsRow_below HOA5.out (fun k hk => HB59.out.block k (HOA5.out.lt k hk).2)
  have HFA9 : Hid (Calls Tryf.prog 10 #[.slice qA bA.length cA, .int .i64 z] w9 (FmtOf F nm z iA w9)) := Lib.hid (fmtV F nm iA HIA.out z _ w3.heap.size w9 (by rw [HB9.out.tape]; exact HF.out) (by rw [HFA.out, ← HBA.out]; exact hoA9) (by rw [HNA.out]; omega) (by rw [HFA.out]; omega) (HT.out.old HB9.out))
  clear hr9 hb9 hoA9 HFW HB8 HB58
  go_wp2_with (fail)
  refine HFA9.out.mono ?_
  rintro e w10 ⟨q10, c10, rfl, hr10, hb10⟩
  rw [HNA.out] at hr10 ⊢
  have HR10 := Lib.hid hr10
  have HB910 := Lib.hid hb10
  have HB10 : Hid (Below w.heap.size w w10) := Lib.hid (HB9.out.trans (hb10.mono HB9.out.size))
  have HB510 : Hid (Below w5.heap.size w5 w10) := Lib.hid (HB59.out.trans (hb10.mono HB59.out.size))
  have hoB10 : w10.ownsRow w4.heap.size 5 1 (.slice qB bB.length cB) bB.length bB := Go.Fmt.ownsRow_below HOB.out (fun k hk => HB510.out.block k (HOB.out.lt k hk).2)
  have HFB10 : Hid (Calls Tryf.prog 10 #[.slice qB bB.length cB, .int .i64 (wrap64 (z + (bA.length : Int)))] w10 (FmtOf F nm (wrap64 (z + (bA.length : Int))) iB w10)) := Lib.hid (fmtV F nm iB HIB.out _ _ w4.heap.size w10 (by rw [HB10.out.tape]; exact HF.out) (by rw [HFB.out, ← HBB.out]; exact hoB10) (by rw [HNB.out]; omega) (by rw [HFB.out]; omega) (HT.out.old HB10.out))
  clear hr10 hb10 hoB10 HFA9 HB59
  go_wp2_with (fail)
  refine HFB10.out.mono ?_
  rintro e w11 ⟨q11, c11, rfl, hr11, hb11⟩
  rw [HNB.out] at hr11 ⊢
  have HB11 : Hid (Below w.heap.size w w11) := Lib.hid (HB10.out.trans (hb11.mono HB10.out.size))
  have hr9' : w11.ownsRow w8.heap.size 9 1 (.slice q9 (os.length + os2.length) c9) (os.length + os2.length) (lines F nm z 0 (iA ++ iB)) := Go.Fmt.ownsRow_below HR9.out (fun k hk => ((hb11.block k (by have := (HR9.out.lt k hk).2; have := HB910.out.size; omega)).trans (HB910.out.block k (HR9.out.lt k hk).2)))
  have hr10' : w11.ownsRow w9.heap.size 9 1 (.slice q10 os.length c10) os.length (lines F nm z 0 iA) := Go.Fmt.ownsRow_below HR10.out (fun k hk => hb11.block k (HR10.out.lt k hk).2)
  rw [lines_append, Nat.zero_add, HFA.out] at hr9'
  rw [lines_shift, Nat.add_zero] at hr11
  have hlA : (lines F nm z 0 iA).length = os.length := by rw [lines_length, HNA.out]
  have hlB : (lines F nm z bA.length iB).length = os2.length := by rw [lines_length, HNB.out]
  have HTA : Hid (∀ j, j < os.length → ∃ g1 g2 s, q9 = some ⟨g1, 0, none⟩ ∧ q10 = some ⟨g2, 0, none⟩ ∧ w11.cell? ⟨g1, j, none⟩ = some (.string s) ∧ w11.cell? ⟨g2, j, none⟩ = some (.string s)) := Lib.hid (fun j hj => by
    have h := two_of (X := []) (Y := lines F nm z bA.length iB) (L := lines F nm z 0 iA) (by simpa using hr9') hr10' (lines_str F nm z _ _) (by rw [hlA, hlB]; simp) hlA.symm j (by rw [hlA]; exact hj)
    simpa using h)
  have HTB : Hid (∀ j, j < os2.length → ∃ g1 g2 s, q9 = some ⟨g1, 0, none⟩ ∧ q11 = some ⟨g2, 0, none⟩ ∧ w11.cell? ⟨g1, os.length + j, none⟩ = some (.string s) ∧ w11.cell? ⟨g2, j, none⟩ = some (.string s)) := Lib.hid (fun j hj => by
    have h := two_of (X := lines F nm z 0 iA) (Y := []) (L := lines F nm z bA.length iB) (by simpa using hr9') hr11 (lines_str F nm z _ _) (by rw [hlA, hlB]; simp) hlB.symm j (by rw [hlB]; exact hj)
    rw [hlA] at h
    exact h)
  clear hr11 hb11 hr9' hr10' hlA hlB HFB10 HR9 HR10 HB9 HB10 HB510 HB910
  go_wp2_with (fail)
  go_loopw [17] (fun jv wr => ∃ j k : Nat, j ≤ os.length ∧ jv = .int .i64 j ∧ wr = w11.drewN k) (fun jv _ => os.length - (intOf jv).toNat)
  case atStart => exact ⟨0, 0, Nat.zero_le _, rfl, rfl⟩
  case round =>
    obtain ⟨j, k, hj, rfl, rfl⟩ := hrel
    by_cases hlt : j < os.length
    · obtain ⟨g1, g2, s, rfl, rfl, y1, y2⟩ := HTA.out j hlt
      have s1 : (0 : Int) ≤ (j : Int) := by omega
      have s2 : (j : Int) < (os.length : Int) := by omega
      have s3 : (j : Int) < (os.length : Int) + (os2.length : Int) := by omega
      clear HTA HTB
      go_wp2_with (fail)
      go_quiet (fail)
      go_wp2_with (fail)
      go_roundw
      case rel => exact ⟨j + 1, _, hlt, by go_num, rfl⟩
      case measure => simp [intOf]; omega
    · obtain rfl : j = os.length := by omega
      clear HTA
      go_wp2_with (fail)
      go_loopw [18] (fun jv wr => ∃ j k : Nat, j ≤ os2.length ∧ jv = .int .i64 j ∧ wr = w11.drewN k) (fun jv _ => os2.length - (intOf jv).toNat)
      case atStart => exact ⟨0, _, Nat.zero_le _, rfl, rfl⟩
      case round =>
        obtain ⟨j, k, hj, rfl, rfl⟩ := hrel
        by_cases hlt2 : j < os2.length
        · obtain ⟨g1, g2, s, rfl, rfl, y1, y2⟩ := HTB.out j hlt2
          have s1 : (0 : Int) ≤ (j : Int) := by omega
          have s2 : (j : Int) < (os2.length : Int) := by omega
          have s3 : (os.length : Int) + (j : Int) < (os.length : Int) + (os2.length : Int) := by omega
          have s4 : (0 : Int) ≤ (os.length : Int) + (j : Int) := by omega
          have s5 : IntKind.i64.wrap ((os.length : Int) + (j : Int)) = (os.length : Int) + (j : Int) := IntWalk.i64_in _ (by omega)
          have s6 : ((os.length : Int) + (j : Int)).toNat = os.length + j := by omega
          clear HTB
          go_wp2_with (fail)
          go_quiet (fail)
          clear s5 s6
          go_wp2_with (fail)
          go_roundw
          case rel => exact ⟨j + 1, _, hlt2, by go_num, rfl⟩
          case measure => simp [intOf]; omega
        · obtain rfl : j = os2.length := by omega
          go_wp2
          go_ret
          exact ⟨rfl, ⟨HB11.out.os, HB11.out.tape, HB11.out.output, HB11.out.size, HB11.out.block⟩⟩
end Go.Proofs.YtjnoodilpffbiaaFmt.Ft
