/- The law FnMakeInstructionExactBytes: its walk. -/
import Derived.Test.YtjnoodilpffbiaaDoorMkE
namespace Go.Proofs.YtjnoodilpffbiaaDoor.Mk
open Go.ChangeShapes Go.WideShapes Go.ChangeAt Go.RowKit Go.Blk Go.Mk Go.LawFrame

theorem want_eq (x z : Int) (hz : z = 1 ∨ z = 2 ∨ z = 4) : (IntKind.u64.wrap x).tmod (modW z) = x % modW z := by
  have e : IntKind.u64.wrap x = x % 18446744073709551616 := by simp [IntKind.wrap, IntKind.signed, IntKind.bits]
  rw [e, Int.tmod_eq_emod_of_nonneg (by omega)]
  rcases hz with rfl | rfl | rfl
  · rw [show modW 1 = 256 from rfl]; omega
  · rw [show modW 2 = 65536 from rfl]; omega
  · rw [show modW 4 = 4294967296 from rfl]; omega

set_option maxRecDepth 100000 in
set_option maxHeartbeats 8000000 in
theorem exact0 (op : Nat) (zs : List Int) (a b : Int) (w : World) (hop : op < 42) (hr : RowIs w 0 op zs) (hw : Widths zs) (hk1 : (0 : Int) ≤ zs.length) :
    Calls Tryd.prog 4 #[.int .u8 op, .int .i64 0, .int .i64 a, .int .i64 b] w fun e w' => e = .returned (.bool true) ∧ Below w.heap.size w w' := by
  have HR := Lib.hid hr
  obtain ⟨ad, cap, hc0, hcap, hcm, hrow⟩ := hr
  have HW := Lib.hid hw
  have HROW := Lib.hid hrow
  have hzl := hw.1
  have hmk := make02
  clear hrow hw
  have hcm' : (cap : Int) ≤ 9223372036854775807 := by unfold maxLen at hcm; omega
  obtain ⟨xs, hxs⟩ : ∃ xs : List Int, xs = [] := ⟨_, rfl⟩
  have hxl : xs.length = 0 := by rw [hxs]; rfl
  obtain ⟨G, hG⟩ : ∃ G, G = (w.alloc (.cells #[.int .i64 0, .int .i64 0] 3)).heap.size := ⟨_, rfl⟩
  have hbW : Below w.heap.size w (w.alloc (.cells #[.int .i64 0, .int .i64 0] 3)) := (Below.refl _ _).alloc (Nat.le_refl _) _
  have hGw : w.heap.size < G := by rw [hG]; simp
  have hxc : ∀ j (hj : j < xs.length), (w.alloc (.cells #[.int .i64 0, .int .i64 0] 3)).cell? ⟨w.heap.size, j, none⟩ = some (.int .i64 xs[j]) := by
    subst hxs
    intro j hj
    simp at hj
  have hcall : ∀ n : Nat, n = (body zs xs).length + 1 → Calls Tryd.prog 7 #[.int .u8 op, .slice (some ⟨w.heap.size, 0, none⟩) 0 2] (w.alloc (.cells #[.int .i64 0, .int .i64 0] 3)) fun e w' => e = .returned (.slice (some ⟨G, 0, none⟩) n n) ∧ Blk w' G 5 (bytes ((op : Int) :: body zs xs)) ∧ Below G (w.alloc (.cells #[.int .i64 0, .int .i64 0] 3)) w' := by
    intro n hn
    have h := makeInstr op zs xs w.heap.size 2 _ hop (HR.out.old hbW) HW.out hxc (by omega)
    rw [← hG, ← hn, hxl] at h
    exact h
  have HC := Lib.hid hcall
  have HXL := Lib.hid hxl
  have HXC := Lib.hid hxc
  have HBW := Lib.hid hbW
  have HG := Lib.hid hG
  clear hcall hxl hxc hbW hxs hG
  go_enter Tryd.func4, Tryd.ntmps4
  go_wp2
  go_loop [11, 12] (fun t i => ∃ k n : Nat, k ≤ zs.length ∧ i = .int .i64 k ∧ t = .int .i64 n ∧ n ≤ 9 ∧ Hid ((n : Int) = 1 + tot (zs.take k))) (fun _ i => zs.length - (intOf i).toNat)
  case atStart => exact ⟨0, 1, Nat.zero_le _, rfl, rfl, by omega, Lib.hid (by simp [tot])⟩
  case round =>
    obtain ⟨j, n, hj, rfl, rfl, hn9, HN⟩ := hrel
    by_cases hlt : j < zs.length
    · have hck := HROW.out j hlt
      have HS := Lib.hid (tot_snoc zs j hlt)
      have h2 := HW.out.take (j + 1)
      have hzj := HW.out.2 zs[j] (List.getElem_mem _)
      rw [HS.out] at h2
      generalize zs[j] = z at *
      have hn' : (n : Int) + z ≤ 9 := by have := HN.out; omega
      have hz1 : 1 ≤ z ∧ z ≤ 4 := by omega
      have HZ := Lib.hid hzj
      clear hzj h2
      go_wp2_with ((go_at_call 5; refine (widthOK _ _ HZ.out).mono ?_; rintro e w' ⟨rfl, rfl⟩))
      go_round
      case rel => exact ⟨j + 1, (n + z).toNat, hlt, by go_num, by (congr 1; omega), by omega, Lib.hid (by rw [HS.out]; have := HN.out; omega)⟩
      case measure => simp [intOf]; omega
    · obtain rfl : j = zs.length := by omega
      have hn : n = (body zs xs).length + 1 := by
        have h1 := HN.out
        have h2 := body_length zs xs HW.out.nonneg
        rw [List.take_length] at h1
        omega
      have HC2 := Lib.hid (HC.out n hn)
      have HBN := Lib.hid hn
      clear hn
      go_wp2_with (fail)
      refine HC2.out.mono ?_
      rintro e w2 ⟨rfl, hblk, hb2⟩
      have HBK := Lib.hid hblk
      have HB2 : Hid (Below w.heap.size w w2) := Lib.hid (HBW.out.trans (hb2.mono (by omega)))
      have HXC2 : Hid (∀ j (hj : j < xs.length), w2.cell? ⟨w.heap.size, j, none⟩ = some (.int .i64 xs[j])) := Lib.hid (fun j hj => (hb2.cell hGw).trans (HXC.out j hj))
      have q0 : w2.cell? ⟨G, 0, none⟩ = some (.int .u8 op) := hblk.cell? 0
      have hn1 : 0 < n := by have := HBN.out; omega
      have hGw2 := hblk.lt
      clear hblk hb2 HC2 HC
      go_wp2
      clear q0
      go_loopw [15, 16] (fun ov jv wr => ∃ j o : Nat, j ≤ zs.length ∧ jv = .int .i64 j ∧ ov = .int .i64 o ∧ o ≤ 9 ∧ Hid ((o : Int) = 1 + tot (zs.take j)) ∧ Hid (Below w2.heap.size w2 wr)) (fun _ jv _ => zs.length - (intOf jv).toNat)
      case atStart => exact ⟨0, 1, Nat.zero_le _, rfl, rfl, by omega, Lib.hid (by simp [tot]), Lib.hid (Below.refl _ _)⟩
      case round =>
        obtain ⟨j, o, hj, rfl, rfl, ho9, HO, HBR⟩ := hrel
        obtain ⟨wo, hwo⟩ : ∃ wo : World, wo = wr := ⟨_, rfl⟩
        subst hwo
        by_cases hlt : j < zs.length
        · have hck := HROW.out j hlt
          have hcz := (HBR.out.cell (World.block_lt_of_cell? w2 _ ((HB2.out.cell (World.block_lt_of_cell? w _ hck)).trans hck))).trans ((HB2.out.cell (World.block_lt_of_cell? w _ hck)).trans hck)
          clear hck
          have HBO : Hid (Blk wo G 5 (bytes ((op : Int) :: body zs xs))) := Lib.hid (HBK.out.old HBR.out)
          obtain ⟨A, C, e1, e2⟩ := body_at zs xs j hlt HW.out.nonneg
          obtain ⟨F, hF⟩ : ∃ F, F = fieldAt zs xs j := ⟨_, rfl⟩
          have hzj := HW.out.2 zs[j] (List.getElem_mem _)
          have HS := Lib.hid (tot_snoc zs j hlt)
          have hFl := fieldAt_length zs xs j hlt
          have HFB := Lib.hid (fieldAt_byte zs xs j)
          have HGV := Lib.hid (fun hx => fieldAt_given zs xs j hlt hx hzj)
          have HNV := Lib.hid (fun hx => fieldAt_not zs xs j hx)
          rw [← hF] at e1 hFl HFB HGV HNV
          rw [e1] at HBO
          have hln : n = 1 + A.length + F.length + C.length := by have := HBN.out; rw [e1] at this; simp at this; omega
          have hoA : o = 1 + A.length := by have := HO.out; omega
          have HCF : Hid (∀ t (ht : t < F.length), wo.cell? ⟨G, o + t, none⟩ = some (.int .u8 F[t])) := Lib.hid (fun t ht => by
            rw [HBO.out.cell?, hoA, show 1 + A.length + t = (A.length + t) + 1 by omega]
            simp [bytes, List.getElem?_append_right, List.getElem?_append_left, ht])
          clear e1 e2 hF HBO
          generalize zs[j] = z at *
          have hz1 : 1 ≤ z ∧ z ≤ 4 := by omega
          have hFz : (F.length : Int) = z := by omega
          have hon : o + F.length ≤ n := by omega
          have HZ := Lib.hid hzj
          have HFz := Lib.hid hFz
          clear hzj hFl hoA hln hFz
          go_wp2
          go_loop [18, 19] (fun gv tv => ∃ (t : Nat) (g : Int), (t : Int) ≤ z ∧ tv = .int .i64 t ∧ gv = .int .u64 g ∧ Hid (g = rd 0 (F.take t)) ∧ 0 ≤ g ∧ (t < 4 → g < 16777216)) (fun _ tv => z.toNat - (intOf tv).toNat)
          case atStart => exact ⟨0, 0, by omega, rfl, rfl, Lib.hid rfl, by omega, fun _ => by omega⟩
          case round =>
            obtain ⟨t, g, ht, rfl, rfl, HT, hg0, hg1⟩ := hrel
            by_cases htz : (t : Int) < z
            · have htF : t < F.length := by have := HFz.out; omega
              have hct := HCF.out t htF
              have hft := HFB.out F[t] (List.getElem_mem _)
              have HRS := Lib.hid (rd_snoc F t htF)
              generalize F[t] = f at *
              have hg2 := hg1 (by omega)
              have hot : o + t < n := by omega
              clear hg1
              go_wp2
              go_round
              case rel =>
                refine ⟨t + 1, g * 256 + f, by omega, by go_num, rfl, Lib.hid (by rw [HRS.out, HT.out]), by omega, fun h4 => ?_⟩
                have := rd_small (F.take (t + 1)) (fun b hb => HFB.out b (List.mem_of_mem_take hb)) (by simp; omega)
                rw [HRS.out, ← HT.out] at this
                exact this.2
              case measure => simp [intOf]; omega
            · have htF : t = F.length := by have := HFz.out; omega
              have HT2 : Hid (g = rd 0 F) := Lib.hid (by rw [HT.out, htF, List.take_length])
              clear hg1 htF HT
              by_cases hjk : j < 0
              · exact absurd hjk (by omega)
              · have hjk' : ¬ (j : Int) < 0 := by omega
                have HV : Hid (g = 0) := Lib.hid (by rw [HT2.out]; exact HNV.out (by rw [HXL.out]; exact hjk))
                obtain rfl := HV.out
                go_wp2
                go_roundw
                case rel => exact ⟨j + 1, (o + z).toNat, hlt, by go_num, by (congr 1; omega), by have := HFz.out; omega, Lib.hid (by rw [HS.out]; have := HO.out; omega), HBR⟩
                case measure => simp [intOf]; omega
        · obtain rfl : j = zs.length := by omega
          go_wp2
          go_ret
          exact ⟨rfl, HB2.out.trans (HBR.out.mono HB2.out.size)⟩

set_option maxRecDepth 100000 in
set_option maxHeartbeats 8000000 in
theorem exact1 (op : Nat) (zs : List Int) (a b : Int) (w : World) (hop : op < 42) (hr : RowIs w 0 op zs) (hw : Widths zs) (hk1 : (1 : Int) ≤ zs.length) :
    Calls Tryd.prog 4 #[.int .u8 op, .int .i64 1, .int .i64 a, .int .i64 b] w fun e w' => e = .returned (.bool true) ∧ Below w.heap.size w w' := by
  have HR := Lib.hid hr
  obtain ⟨ad, cap, hc0, hcap, hcm, hrow⟩ := hr
  have HW := Lib.hid hw
  have HROW := Lib.hid hrow
  have hzl := hw.1
  have hmk := make02
  clear hrow hw
  have hcm' : (cap : Int) ≤ 9223372036854775807 := by unfold maxLen at hcm; omega
  obtain ⟨xs, hxs⟩ : ∃ xs : List Int, xs = [a] := ⟨_, rfl⟩
  have hxl : xs.length = 1 := by rw [hxs]; rfl
  obtain ⟨G, hG⟩ : ∃ G, G = ((w.alloc (.cells #[.int .i64 a, .int .i64 0] 3)).alloc (.cells #[.int .i64 a] 3)).heap.size := ⟨_, rfl⟩
  have hbW : Below w.heap.size w ((w.alloc (.cells #[.int .i64 a, .int .i64 0] 3)).alloc (.cells #[.int .i64 a] 3)) := ((Below.refl _ _).alloc (Nat.le_refl _) _).alloc (by simp) _
  have hGw : w.heap.size < G := by rw [hG]; simp; omega
  have hxc : ∀ j (hj : j < xs.length), ((w.alloc (.cells #[.int .i64 a, .int .i64 0] 3)).alloc (.cells #[.int .i64 a] 3)).cell? ⟨w.heap.size, j, none⟩ = some (.int .i64 xs[j]) := by
    subst hxs
    intro j hj
    obtain rfl : j = 0 := by simp at hj; omega
    simp
  have hcall : ∀ n : Nat, n = (body zs xs).length + 1 → Calls Tryd.prog 7 #[.int .u8 op, .slice (some ⟨w.heap.size, 0, none⟩) 1 2] ((w.alloc (.cells #[.int .i64 a, .int .i64 0] 3)).alloc (.cells #[.int .i64 a] 3)) fun e w' => e = .returned (.slice (some ⟨G, 0, none⟩) n n) ∧ Blk w' G 5 (bytes ((op : Int) :: body zs xs)) ∧ Below G ((w.alloc (.cells #[.int .i64 a, .int .i64 0] 3)).alloc (.cells #[.int .i64 a] 3)) w' := by
    intro n hn
    have h := makeInstr op zs xs w.heap.size 2 _ hop (HR.out.old hbW) HW.out hxc (by omega)
    rw [← hG, ← hn, hxl] at h
    exact h
  have HC := Lib.hid hcall
  have HXL := Lib.hid hxl
  have HXC := Lib.hid hxc
  have HBW := Lib.hid hbW
  have HG := Lib.hid hG
  clear hcall hxl hxc hbW hxs hG
  go_enter Tryd.func4, Tryd.ntmps4
  go_wp2
  go_loop [11, 12] (fun t i => ∃ k n : Nat, k ≤ zs.length ∧ i = .int .i64 k ∧ t = .int .i64 n ∧ n ≤ 9 ∧ Hid ((n : Int) = 1 + tot (zs.take k))) (fun _ i => zs.length - (intOf i).toNat)
  case atStart => exact ⟨0, 1, Nat.zero_le _, rfl, rfl, by omega, Lib.hid (by simp [tot])⟩
  case round =>
    obtain ⟨j, n, hj, rfl, rfl, hn9, HN⟩ := hrel
    by_cases hlt : j < zs.length
    · have hck := HROW.out j hlt
      have HS := Lib.hid (tot_snoc zs j hlt)
      have h2 := HW.out.take (j + 1)
      have hzj := HW.out.2 zs[j] (List.getElem_mem _)
      rw [HS.out] at h2
      generalize zs[j] = z at *
      have hn' : (n : Int) + z ≤ 9 := by have := HN.out; omega
      have hz1 : 1 ≤ z ∧ z ≤ 4 := by omega
      have HZ := Lib.hid hzj
      clear hzj h2
      go_wp2_with ((go_at_call 5; refine (widthOK _ _ HZ.out).mono ?_; rintro e w' ⟨rfl, rfl⟩))
      go_round
      case rel => exact ⟨j + 1, (n + z).toNat, hlt, by go_num, by (congr 1; omega), by omega, Lib.hid (by rw [HS.out]; have := HN.out; omega)⟩
      case measure => simp [intOf]; omega
    · obtain rfl : j = zs.length := by omega
      have hn : n = (body zs xs).length + 1 := by
        have h1 := HN.out
        have h2 := body_length zs xs HW.out.nonneg
        rw [List.take_length] at h1
        omega
      have HC2 := Lib.hid (HC.out n hn)
      have HBN := Lib.hid hn
      clear hn
      go_wp2_with (fail)
      refine HC2.out.mono ?_
      rintro e w2 ⟨rfl, hblk, hb2⟩
      have HBK := Lib.hid hblk
      have HB2 : Hid (Below w.heap.size w w2) := Lib.hid (HBW.out.trans (hb2.mono (by omega)))
      have HXC2 : Hid (∀ j (hj : j < xs.length), w2.cell? ⟨w.heap.size, j, none⟩ = some (.int .i64 xs[j])) := Lib.hid (fun j hj => (hb2.cell hGw).trans (HXC.out j hj))
      have q0 : w2.cell? ⟨G, 0, none⟩ = some (.int .u8 op) := hblk.cell? 0
      have hn1 : 0 < n := by have := HBN.out; omega
      have hGw2 := hblk.lt
      clear hblk hb2 HC2 HC
      go_wp2
      clear q0
      go_loopw [15, 16] (fun ov jv wr => ∃ j o : Nat, j ≤ zs.length ∧ jv = .int .i64 j ∧ ov = .int .i64 o ∧ o ≤ 9 ∧ Hid ((o : Int) = 1 + tot (zs.take j)) ∧ Hid (Below w2.heap.size w2 wr)) (fun _ jv _ => zs.length - (intOf jv).toNat)
      case atStart => exact ⟨0, 1, Nat.zero_le _, rfl, rfl, by omega, Lib.hid (by simp [tot]), Lib.hid (Below.refl _ _)⟩
      case round =>
        obtain ⟨j, o, hj, rfl, rfl, ho9, HO, HBR⟩ := hrel
        obtain ⟨wo, hwo⟩ : ∃ wo : World, wo = wr := ⟨_, rfl⟩
        subst hwo
        by_cases hlt : j < zs.length
        · have hck := HROW.out j hlt
          have hcz := (HBR.out.cell (World.block_lt_of_cell? w2 _ ((HB2.out.cell (World.block_lt_of_cell? w _ hck)).trans hck))).trans ((HB2.out.cell (World.block_lt_of_cell? w _ hck)).trans hck)
          clear hck
          have HBO : Hid (Blk wo G 5 (bytes ((op : Int) :: body zs xs))) := Lib.hid (HBK.out.old HBR.out)
          obtain ⟨A, C, e1, e2⟩ := body_at zs xs j hlt HW.out.nonneg
          obtain ⟨F, hF⟩ : ∃ F, F = fieldAt zs xs j := ⟨_, rfl⟩
          have hzj := HW.out.2 zs[j] (List.getElem_mem _)
          have HS := Lib.hid (tot_snoc zs j hlt)
          have hFl := fieldAt_length zs xs j hlt
          have HFB := Lib.hid (fieldAt_byte zs xs j)
          have HGV := Lib.hid (fun hx => fieldAt_given zs xs j hlt hx hzj)
          have HNV := Lib.hid (fun hx => fieldAt_not zs xs j hx)
          rw [← hF] at e1 hFl HFB HGV HNV
          rw [e1] at HBO
          have hln : n = 1 + A.length + F.length + C.length := by have := HBN.out; rw [e1] at this; simp at this; omega
          have hoA : o = 1 + A.length := by have := HO.out; omega
          have HCF : Hid (∀ t (ht : t < F.length), wo.cell? ⟨G, o + t, none⟩ = some (.int .u8 F[t])) := Lib.hid (fun t ht => by
            rw [HBO.out.cell?, hoA, show 1 + A.length + t = (A.length + t) + 1 by omega]
            simp [bytes, List.getElem?_append_right, List.getElem?_append_left, ht])
          clear e1 e2 hF HBO
          generalize zs[j] = z at *
          have hz1 : 1 ≤ z ∧ z ≤ 4 := by omega
          have hFz : (F.length : Int) = z := by omega
          have hon : o + F.length ≤ n := by omega
          have HZ := Lib.hid hzj
          have HFz := Lib.hid hFz
          clear hzj hFl hoA hln hFz
          go_wp2
          go_loop [18, 19] (fun gv tv => ∃ (t : Nat) (g : Int), (t : Int) ≤ z ∧ tv = .int .i64 t ∧ gv = .int .u64 g ∧ Hid (g = rd 0 (F.take t)) ∧ 0 ≤ g ∧ (t < 4 → g < 16777216)) (fun _ tv => z.toNat - (intOf tv).toNat)
          case atStart => exact ⟨0, 0, by omega, rfl, rfl, Lib.hid rfl, by omega, fun _ => by omega⟩
          case round =>
            obtain ⟨t, g, ht, rfl, rfl, HT, hg0, hg1⟩ := hrel
            by_cases htz : (t : Int) < z
            · have htF : t < F.length := by have := HFz.out; omega
              have hct := HCF.out t htF
              have hft := HFB.out F[t] (List.getElem_mem _)
              have HRS := Lib.hid (rd_snoc F t htF)
              generalize F[t] = f at *
              have hg2 := hg1 (by omega)
              have hot : o + t < n := by omega
              clear hg1
              go_wp2
              go_round
              case rel =>
                refine ⟨t + 1, g * 256 + f, by omega, by go_num, rfl, Lib.hid (by rw [HRS.out, HT.out]), by omega, fun h4 => ?_⟩
                have := rd_small (F.take (t + 1)) (fun b hb => HFB.out b (List.mem_of_mem_take hb)) (by simp; omega)
                rw [HRS.out, ← HT.out] at this
                exact this.2
              case measure => simp [intOf]; omega
            · have htF : t = F.length := by have := HFz.out; omega
              have HT2 : Hid (g = rd 0 F) := Lib.hid (by rw [HT.out, htF, List.take_length])
              clear hg1 htF HT
              by_cases hjk : j < 1
              · have hcx := (HBR.out.cell (World.block_lt_of_cell? w2 _ (HXC2.out j (by rw [HXL.out]; exact hjk)))).trans (HXC2.out j (by rw [HXL.out]; exact hjk))
                have hjk' : (j : Int) < 1 := by omega
                have HV := Lib.hid (HGV.out (by rw [HXL.out]; exact hjk))
                generalize xs[j]'(by rw [HXL.out]; exact hjk) = x at *
                have hm0 : (modW z == 0) = false := by rcases HZ.out with e | e | e <;> rw [e] <;> rfl
                have hm1 : 1 ≤ modW z := by rcases HZ.out with e | e | e <;> rw [e] <;> decide
                go_wp2
                go_quiet ((go_at_call 6; exact Calls.quiet_of_same ((zzMod _ _ HZ.out).mono (fun _ _ h => ⟨h.1, h.2.symm⟩))))
                rw [want_eq x z HZ.out, ← HV.out, ← HT2.out]
                go_wp2
                go_roundw
                case rel => exact ⟨j + 1, (o + z).toNat, hlt, by go_num, by (congr 1; omega), by have := HFz.out; omega, Lib.hid (by rw [HS.out]; have := HO.out; omega), Lib.hid ⟨HBR.out.os, HBR.out.tape, HBR.out.output, HBR.out.size, HBR.out.block⟩⟩
                case measure => simp [intOf]; omega
              · have hjk' : ¬ (j : Int) < 1 := by omega
                have HV : Hid (g = 0) := Lib.hid (by rw [HT2.out]; exact HNV.out (by rw [HXL.out]; exact hjk))
                obtain rfl := HV.out
                go_wp2
                go_roundw
                case rel => exact ⟨j + 1, (o + z).toNat, hlt, by go_num, by (congr 1; omega), by have := HFz.out; omega, Lib.hid (by rw [HS.out]; have := HO.out; omega), HBR⟩
                case measure => simp [intOf]; omega
        · obtain rfl : j = zs.length := by omega
          go_wp2
          go_ret
          exact ⟨rfl, HB2.out.trans (HBR.out.mono HB2.out.size)⟩

set_option maxRecDepth 100000 in
set_option maxHeartbeats 8000000 in
theorem exact2 (op : Nat) (zs : List Int) (a b : Int) (w : World) (hop : op < 42) (hr : RowIs w 0 op zs) (hw : Widths zs) (hk1 : (2 : Int) ≤ zs.length) :
    Calls Tryd.prog 4 #[.int .u8 op, .int .i64 2, .int .i64 a, .int .i64 b] w fun e w' => e = .returned (.bool true) ∧ Below w.heap.size w w' := by
  have HR := Lib.hid hr
  obtain ⟨ad, cap, hc0, hcap, hcm, hrow⟩ := hr
  have HW := Lib.hid hw
  have HROW := Lib.hid hrow
  have hzl := hw.1
  have hmk := make02
  clear hrow hw
  have hcm' : (cap : Int) ≤ 9223372036854775807 := by unfold maxLen at hcm; omega
  obtain ⟨xs, hxs⟩ : ∃ xs : List Int, xs = [a, b] := ⟨_, rfl⟩
  have hxl : xs.length = 2 := by rw [hxs]; rfl
  obtain ⟨G, hG⟩ : ∃ G, G = (((w.alloc (.cells #[.int .i64 a, .int .i64 b] 3)).alloc (.cells #[.int .i64 a] 3)).alloc (.cells #[.int .i64 b] 3)).heap.size := ⟨_, rfl⟩
  have hbW : Below w.heap.size w (((w.alloc (.cells #[.int .i64 a, .int .i64 b] 3)).alloc (.cells #[.int .i64 a] 3)).alloc (.cells #[.int .i64 b] 3)) := (((Below.refl _ _).alloc (Nat.le_refl _) _).alloc (by simp) _).alloc (by simp; omega) _
  have hGw : w.heap.size < G := by rw [hG]; simp; omega
  have hxc : ∀ j (hj : j < xs.length), (((w.alloc (.cells #[.int .i64 a, .int .i64 b] 3)).alloc (.cells #[.int .i64 a] 3)).alloc (.cells #[.int .i64 b] 3)).cell? ⟨w.heap.size, j, none⟩ = some (.int .i64 xs[j]) := by
    subst hxs
    intro j hj
    have hB : Blk (((w.alloc (.cells #[.int .i64 a, .int .i64 b] 3)).alloc (.cells #[.int .i64 a] 3)).alloc (.cells #[.int .i64 b] 3)) w.heap.size 3 [.int .i64 a, .int .i64 b] := (blk_alloc w [.int .i64 a, .int .i64 b] 3).old (((Below.refl _ _).alloc (Nat.le_refl _) _).alloc (by simp) _)
    rw [hB.cell?]
    rcases (show j = 0 ∨ j = 1 by simp at hj; omega) with rfl | rfl <;> rfl
  have hcall : ∀ n : Nat, n = (body zs xs).length + 1 → Calls Tryd.prog 7 #[.int .u8 op, .slice (some ⟨w.heap.size, 0, none⟩) 2 2] (((w.alloc (.cells #[.int .i64 a, .int .i64 b] 3)).alloc (.cells #[.int .i64 a] 3)).alloc (.cells #[.int .i64 b] 3)) fun e w' => e = .returned (.slice (some ⟨G, 0, none⟩) n n) ∧ Blk w' G 5 (bytes ((op : Int) :: body zs xs)) ∧ Below G (((w.alloc (.cells #[.int .i64 a, .int .i64 b] 3)).alloc (.cells #[.int .i64 a] 3)).alloc (.cells #[.int .i64 b] 3)) w' := by
    intro n hn
    have h := makeInstr op zs xs w.heap.size 2 _ hop (HR.out.old hbW) HW.out hxc (by omega)
    rw [← hG, ← hn, hxl] at h
    exact h
  have HC := Lib.hid hcall
  have HXL := Lib.hid hxl
  have HXC := Lib.hid hxc
  have HBW := Lib.hid hbW
  have HG := Lib.hid hG
  clear hcall hxl hxc hbW hxs hG
  go_enter Tryd.func4, Tryd.ntmps4
  go_wp2
  go_loop [11, 12] (fun t i => ∃ k n : Nat, k ≤ zs.length ∧ i = .int .i64 k ∧ t = .int .i64 n ∧ n ≤ 9 ∧ Hid ((n : Int) = 1 + tot (zs.take k))) (fun _ i => zs.length - (intOf i).toNat)
  case atStart => exact ⟨0, 1, Nat.zero_le _, rfl, rfl, by omega, Lib.hid (by simp [tot])⟩
  case round =>
    obtain ⟨j, n, hj, rfl, rfl, hn9, HN⟩ := hrel
    by_cases hlt : j < zs.length
    · have hck := HROW.out j hlt
      have HS := Lib.hid (tot_snoc zs j hlt)
      have h2 := HW.out.take (j + 1)
      have hzj := HW.out.2 zs[j] (List.getElem_mem _)
      rw [HS.out] at h2
      generalize zs[j] = z at *
      have hn' : (n : Int) + z ≤ 9 := by have := HN.out; omega
      have hz1 : 1 ≤ z ∧ z ≤ 4 := by omega
      have HZ := Lib.hid hzj
      clear hzj h2
      go_wp2_with ((go_at_call 5; refine (widthOK _ _ HZ.out).mono ?_; rintro e w' ⟨rfl, rfl⟩))
      go_round
      case rel => exact ⟨j + 1, (n + z).toNat, hlt, by go_num, by (congr 1; omega), by omega, Lib.hid (by rw [HS.out]; have := HN.out; omega)⟩
      case measure => simp [intOf]; omega
    · obtain rfl : j = zs.length := by omega
      have hn : n = (body zs xs).length + 1 := by
        have h1 := HN.out
        have h2 := body_length zs xs HW.out.nonneg
        rw [List.take_length] at h1
        omega
      have HC2 := Lib.hid (HC.out n hn)
      have HBN := Lib.hid hn
      clear hn
      go_wp2_with (fail)
      refine HC2.out.mono ?_
      rintro e w2 ⟨rfl, hblk, hb2⟩
      have HBK := Lib.hid hblk
      have HB2 : Hid (Below w.heap.size w w2) := Lib.hid (HBW.out.trans (hb2.mono (by omega)))
      have HXC2 : Hid (∀ j (hj : j < xs.length), w2.cell? ⟨w.heap.size, j, none⟩ = some (.int .i64 xs[j])) := Lib.hid (fun j hj => (hb2.cell hGw).trans (HXC.out j hj))
      have q0 : w2.cell? ⟨G, 0, none⟩ = some (.int .u8 op) := hblk.cell? 0
      have hn1 : 0 < n := by have := HBN.out; omega
      have hGw2 := hblk.lt
      clear hblk hb2 HC2 HC
      go_wp2
      clear q0
      go_loopw [15, 16] (fun ov jv wr => ∃ j o : Nat, j ≤ zs.length ∧ jv = .int .i64 j ∧ ov = .int .i64 o ∧ o ≤ 9 ∧ Hid ((o : Int) = 1 + tot (zs.take j)) ∧ Hid (Below w2.heap.size w2 wr)) (fun _ jv _ => zs.length - (intOf jv).toNat)
      case atStart => exact ⟨0, 1, Nat.zero_le _, rfl, rfl, by omega, Lib.hid (by simp [tot]), Lib.hid (Below.refl _ _)⟩
      case round =>
        obtain ⟨j, o, hj, rfl, rfl, ho9, HO, HBR⟩ := hrel
        obtain ⟨wo, hwo⟩ : ∃ wo : World, wo = wr := ⟨_, rfl⟩
        subst hwo
        by_cases hlt : j < zs.length
        · have hck := HROW.out j hlt
          have hcz := (HBR.out.cell (World.block_lt_of_cell? w2 _ ((HB2.out.cell (World.block_lt_of_cell? w _ hck)).trans hck))).trans ((HB2.out.cell (World.block_lt_of_cell? w _ hck)).trans hck)
          clear hck
          have HBO : Hid (Blk wo G 5 (bytes ((op : Int) :: body zs xs))) := Lib.hid (HBK.out.old HBR.out)
          obtain ⟨A, C, e1, e2⟩ := body_at zs xs j hlt HW.out.nonneg
          obtain ⟨F, hF⟩ : ∃ F, F = fieldAt zs xs j := ⟨_, rfl⟩
          have hzj := HW.out.2 zs[j] (List.getElem_mem _)
          have HS := Lib.hid (tot_snoc zs j hlt)
          have hFl := fieldAt_length zs xs j hlt
          have HFB := Lib.hid (fieldAt_byte zs xs j)
          have HGV := Lib.hid (fun hx => fieldAt_given zs xs j hlt hx hzj)
          have HNV := Lib.hid (fun hx => fieldAt_not zs xs j hx)
          rw [← hF] at e1 hFl HFB HGV HNV
          rw [e1] at HBO
          have hln : n = 1 + A.length + F.length + C.length := by have := HBN.out; rw [e1] at this; simp at this; omega
          have hoA : o = 1 + A.length := by have := HO.out; omega
          have HCF : Hid (∀ t (ht : t < F.length), wo.cell? ⟨G, o + t, none⟩ = some (.int .u8 F[t])) := Lib.hid (fun t ht => by
            rw [HBO.out.cell?, hoA, show 1 + A.length + t = (A.length + t) + 1 by omega]
            simp [bytes, List.getElem?_append_right, List.getElem?_append_left, ht])
          clear e1 e2 hF HBO
          generalize zs[j] = z at *
          have hz1 : 1 ≤ z ∧ z ≤ 4 := by omega
          have hFz : (F.length : Int) = z := by omega
          have hon : o + F.length ≤ n := by omega
          have HZ := Lib.hid hzj
          have HFz := Lib.hid hFz
          clear hzj hFl hoA hln hFz
          go_wp2
          go_loop [18, 19] (fun gv tv => ∃ (t : Nat) (g : Int), (t : Int) ≤ z ∧ tv = .int .i64 t ∧ gv = .int .u64 g ∧ Hid (g = rd 0 (F.take t)) ∧ 0 ≤ g ∧ (t < 4 → g < 16777216)) (fun _ tv => z.toNat - (intOf tv).toNat)
          case atStart => exact ⟨0, 0, by omega, rfl, rfl, Lib.hid rfl, by omega, fun _ => by omega⟩
          case round =>
            obtain ⟨t, g, ht, rfl, rfl, HT, hg0, hg1⟩ := hrel
            by_cases htz : (t : Int) < z
            · have htF : t < F.length := by have := HFz.out; omega
              have hct := HCF.out t htF
              have hft := HFB.out F[t] (List.getElem_mem _)
              have HRS := Lib.hid (rd_snoc F t htF)
              generalize F[t] = f at *
              have hg2 := hg1 (by omega)
              have hot : o + t < n := by omega
              clear hg1
              go_wp2
              go_round
              case rel =>
                refine ⟨t + 1, g * 256 + f, by omega, by go_num, rfl, Lib.hid (by rw [HRS.out, HT.out]), by omega, fun h4 => ?_⟩
                have := rd_small (F.take (t + 1)) (fun b hb => HFB.out b (List.mem_of_mem_take hb)) (by simp; omega)
                rw [HRS.out, ← HT.out] at this
                exact this.2
              case measure => simp [intOf]; omega
            · have htF : t = F.length := by have := HFz.out; omega
              have HT2 : Hid (g = rd 0 F) := Lib.hid (by rw [HT.out, htF, List.take_length])
              clear hg1 htF HT
              by_cases hjk : j < 2
              · have hcx := (HBR.out.cell (World.block_lt_of_cell? w2 _ (HXC2.out j (by rw [HXL.out]; exact hjk)))).trans (HXC2.out j (by rw [HXL.out]; exact hjk))
                have hjk' : (j : Int) < 2 := by omega
                have HV := Lib.hid (HGV.out (by rw [HXL.out]; exact hjk))
                generalize xs[j]'(by rw [HXL.out]; exact hjk) = x at *
                have hm0 : (modW z == 0) = false := by rcases HZ.out with e | e | e <;> rw [e] <;> rfl
                have hm1 : 1 ≤ modW z := by rcases HZ.out with e | e | e <;> rw [e] <;> decide
                go_wp2
                go_quiet ((go_at_call 6; exact Calls.quiet_of_same ((zzMod _ _ HZ.out).mono (fun _ _ h => ⟨h.1, h.2.symm⟩))))
                rw [want_eq x z HZ.out, ← HV.out, ← HT2.out]
                go_wp2
                go_roundw
                case rel => exact ⟨j + 1, (o + z).toNat, hlt, by go_num, by (congr 1; omega), by have := HFz.out; omega, Lib.hid (by rw [HS.out]; have := HO.out; omega), Lib.hid ⟨HBR.out.os, HBR.out.tape, HBR.out.output, HBR.out.size, HBR.out.block⟩⟩
                case measure => simp [intOf]; omega
              · have hjk' : ¬ (j : Int) < 2 := by omega
                have HV : Hid (g = 0) := Lib.hid (by rw [HT2.out]; exact HNV.out (by rw [HXL.out]; exact hjk))
                obtain rfl := HV.out
                go_wp2
                go_roundw
                case rel => exact ⟨j + 1, (o + z).toNat, hlt, by go_num, by (congr 1; omega), by have := HFz.out; omega, Lib.hid (by rw [HS.out]; have := HO.out; omega), HBR⟩
                case measure => simp [intOf]; omega
        · obtain rfl : j = zs.length := by omega
          go_wp2
          go_ret
          exact ⟨rfl, HB2.out.trans (HBR.out.mono HB2.out.size)⟩

theorem rowsW : ∀ zs ∈ opRows, Widths zs := by decide
theorem opRow {w : World} (h : laidMetH Tryd.prog Rows.fnMakeInstructionExactBytesRow.laid w) (op : Nat) (hop : op < 42) : ∃ zs, RowIs w 0 op zs ∧ Widths zs := by
  rw [MakeChecks.laidMetH_plain _ _ _ (by kernel_rfl)] at h
  have h1 := rows_of_laid (g := 0) (t := 23) (e := 22) (f := 3) (m := 42) (rows := opRows) (n := "github.com/d5/tengo/v2/parser.OpcodeOperands") h (List.mem_cons_self ..) (by kernel_rfl) (by kernel_rfl) Tryd.underlying23 Tryd.underlying22 Tryd.underlying3 (by kernel_rfl) (by kernel_rfl) op hop
  exact ⟨_, h1, rowsW _ (List.getElem_mem _)⟩

theorem exactLaw (op : Nat) (k a b : Int) (w : World) (h256 : op < 256) (hT : op < 42 → ∃ zs, RowIs w 0 op zs ∧ Widths zs) :
    Calls Tryd.prog 4 #[.int .u8 op, .int .i64 k, .int .i64 a, .int .i64 b] w fun e w' => e = .returned (.bool true) ∧ Below w.heap.size w w' := by
  by_cases hop : op < 42
  · obtain ⟨zs, hr, hw⟩ := hT hop
    clear hT
    by_cases hk0 : k < 0
    · obtain ⟨ad, cap, hc0, hcap, hcm, hrow⟩ := hr
      have hzl := hw.1
      clear hrow hw
      go_enter Tryd.func4, Tryd.ntmps4
      go_wp2
      go_ret
      exact ⟨rfl, Below.refl _ _⟩
    · by_cases hk1 : (zs.length : Int) < k
      · obtain ⟨ad, cap, hc0, hcap, hcm, hrow⟩ := hr
        have hzl := hw.1
        clear hrow hw
        go_enter Tryd.func4, Tryd.ntmps4
        go_wp2
        go_ret
        exact ⟨rfl, Below.refl _ _⟩
      · have hzl := hw.1
        rcases (show k = 0 ∨ k = 1 ∨ k = 2 by omega) with rfl | rfl | rfl
        · exact exact0 op zs a b w hop hr hw (by omega)
        · exact exact1 op zs a b w hop hr hw (by omega)
        · exact exact2 op zs a b w hop hr hw (by omega)
  · clear hT
    go_enter Tryd.func4, Tryd.ntmps4
    go_wp2
    go_ret
    exact ⟨rfl, Below.refl _ _⟩
end Go.Proofs.YtjnoodilpffbiaaDoor.Mk
namespace Go.Proofs.YtjnoodilpffbiaaDoor
open Go.Proofs.YtjnoodilpffbiaaDoor.Mk
theorem fnMakeInstructionExactBytes.walk (a0 a1 a2 a3 : Int) (w : World) (w0 : (Lit.int .u8 a0).wf = true) (_w1 : (Lit.int .i64 a1).wf = true) (_w2 : (Lit.int .i64 a2).wf = true) (_w3 : (Lit.int .i64 a3).wf = true) (hL : laidMetH Tryd.prog Rows.fnMakeInstructionExactBytesRow.laid w) :
    Calls Tryd.prog 4 #[.int .u8 a0, .int .i64 a1, .int .i64 a2, .int .i64 a3] w fun e w' => e = .returned (.bool true) ∧ RowKit.Below w.heap.size w w' := by
  have hw : 0 ≤ a0 ∧ a0 < 256 := by
    simp [Lit.wf, IntKind.min, IntKind.max, IntKind.signed, IntKind.bits] at w0
    omega
  obtain ⟨op, rfl⟩ := Int.eq_ofNat_of_zero_le hw.1
  exact exactLaw op a1 a2 a3 w (by omega) (fun h => opRow hL op h)
end Go.Proofs.YtjnoodilpffbiaaDoor
