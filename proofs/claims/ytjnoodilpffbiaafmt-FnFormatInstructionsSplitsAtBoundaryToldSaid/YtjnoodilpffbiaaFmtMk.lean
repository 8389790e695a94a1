/- MakeInstruction: the opcode, then each operand's field, then zeros. -/
import Derived.Test.YtjnoodilpffbiaaFmtBase
import Derived.Test.YtjnoodilpffbiaaFmtBlk
import Derived.Test.YtjnoodilpffbiaaFmtTab
import Derived.Test.YtjnoodilpffbiaaFmtMkL
import Derived.LoopTactic
import Derived.Deep.LoopGhost
import Derived.WalkLawsBesides
import Derived.WalkSpells
import Derived.Outline
namespace Go.Proofs.YtjnoodilpffbiaaFmt.Mk
open Go.ChangeShapes Go.WideShapes Go.ChangeAt Go.RowKit Go.Blk Go.Mk Go.LawFrame

/-- The widths of one opcode. -/
def Widths (zs : List Int) : Prop := zs.length ≤ 2 ∧ ∀ z ∈ zs, z = 1 ∨ z = 2 ∨ z = 4
theorem Widths.nonneg {zs : List Int} (h : Widths zs) : ∀ z ∈ zs, 0 ≤ z := fun z hz => by rcases h.2 z hz with h | h | h <;> omega
theorem tot_le : ∀ (zs : List Int), (∀ z ∈ zs, 0 ≤ z ∧ z ≤ 4) → 0 ≤ tot zs ∧ tot zs ≤ 4 * zs.length
  | [], _ => by simp [tot]
  | z :: zs, h => by
    have h1 := tot_le zs (fun z hz => h z (by simp [hz]))
    have h2 := h z (by simp)
    simp [tot]; omega
theorem Widths.take {zs : List Int} (h : Widths zs) (k : Nat) : 0 ≤ tot (zs.take k) ∧ tot (zs.take k) ≤ 8 := by
  have h1 := tot_le (zs.take k) (fun z hz => by rcases h.2 z (List.mem_of_mem_take hz) with h | h | h <;> omega)
  have h2 := h.1
  have h3 : (zs.take k).length ≤ zs.length := by simp; omega
  omega
theorem tot_snoc (zs : List Int) (k : Nat) (h : k < zs.length) : tot (zs.take (k + 1)) = tot (zs.take k) + zs[k] := by
  rw [List.take_succ_eq_append_getElem h, tot_append]; simp [tot]

def bytes (l : List Int) : List Value := l.map (Value.int .u8)

theorem body_nil : ∀ (zs : List Int), body zs [] = List.replicate (body zs []).length 0
  | [] => rfl
  | z :: zs => by
    have h := body_nil zs
    simp only [body, List.length_append, List.length_replicate]
    rw [← List.replicate_append_replicate, ← h]

theorem u16w (x : Int) : IntKind.u16.wrap x = x % 65536 := by simp [IntKind.wrap, IntKind.signed, IntKind.bits]
theorem set2 {α : Type} (A C : List α) (x0 x1 y0 y1 : α) (n : Nat) (h : A.length = n) : ((A ++ x0 :: x1 :: C).set n y0).set (n + 1) y1 = A ++ y0 :: y1 :: C := by
  rw [set_at' h]
  have := set_at' (A := A ++ [y0]) (C := C) (x := x1) (y := y1) (n := n + 1) (by simp [h])
  simpa using this
theorem set4 {α : Type} (A C : List α) (x0 x1 x2 x3 y0 y1 y2 y3 : α) (n : Nat) (h : A.length = n) : ((((A ++ x0 :: x1 :: x2 :: x3 :: C).set n y0).set (n + 1) y1).set (n + 2) y2).set (n + 3) y3 = A ++ y0 :: y1 :: y2 :: y3 :: C := by
  rw [set2 A _ x0 x1 y0 y1 n h]
  have := set2 (A ++ [y0, y1]) C x2 x3 y2 y3 (n + 2) (by simp [h])
  simpa using this

set_option maxRecDepth 100000 in
set_option maxHeartbeats 4000000 in
theorem makeInstr (op : Nat) (zs xs : List Int) (X c : Nat) (w : World) (hop : op < 42) (hr : RowIs w 0 op zs) (hw : Widths zs) (hx : ∀ j (hj : j < xs.length), w.cell? ⟨X, j, none⟩ = some (.int .i64 xs[j])) (hxl : xs.length ≤ zs.length) :
    Calls Tryf.prog 13 #[.int .u8 op, .slice (some ⟨X, 0, none⟩) xs.length c] w fun e w' => e = .returned (.slice (some ⟨w.heap.size, 0, none⟩) ((body zs xs).length + 1) ((body zs xs).length + 1)) ∧ Blk w' w.heap.size 5 (bytes ((op : Int) :: body zs xs)) ∧ Below w.heap.size w w' := by
  have hI := Lib.hid Fm.info5
  obtain ⟨a, cap, hc0, hcap, hcm, hrow⟩ := hr
  have HW := Lib.hid hw
  have HROW := Lib.hid hrow
  have HX := Lib.hid hx
  have hzl := hw.1
  clear hrow hx hw
  have hcm' : (cap : Int) ≤ 9223372036854775807 := by unfold maxLen at hcm; omega
  go_enter Tryf.func13, Tryf.ntmps13
  go_wp2
  go_loop [6, 21] (fun t i => ∃ k : Nat, k ≤ zs.length ∧ i = .int .i64 k ∧ t = .int .i64 (1 + tot (zs.take k))) (fun _ i => zs.length - (intOf i).toNat)
  case atStart => exact ⟨0, Nat.zero_le _, rfl, rfl⟩
  case round =>
    obtain ⟨k, hk, rfl, rfl⟩ := hrel
    by_cases hlt : k < zs.length
    · have hck := HROW.out k hlt
      have HS := Lib.hid (tot_snoc zs k hlt)
      have h1 := HW.out.take k
      have h2 := HW.out.take (k + 1)
      rw [HS.out] at h2
      generalize zs[k] = z at *
      go_wp2
      go_round
      case rel => exact ⟨k + 1, hlt, by go_num, by rw [HS.out]; go_num⟩
      case measure => simp [intOf]; omega
    · obtain rfl : k = zs.length := by omega
      obtain ⟨n, hn⟩ : ∃ n, n = (body zs xs).length + 1 := ⟨_, rfl⟩
      have hnl : (n : Int) = 1 + tot zs := by
        rw [hn]
        have := body_length zs xs HW.out.nonneg
        omega
      have hT := HW.out.take zs.length
      rw [List.take_length] at hT
      have hn9 : n ≤ 9 := by omega
      have hn1 : 1 ≤ n := by omega
      have HL : Hid (1 + tot (zs.take zs.length) = (n : Int)) := Lib.hid (by rw [List.take_length, hnl])
      have HN := Lib.hid hn
      have HNL := Lib.hid hnl
      clear hn hnl hT
      go_wp2_with ((at_make; refine make_blk rfl _ 22 rfl 5 Tryf.underlying22 (.int .u8 0) 1 hI.out _ n rfl HL.out (by omega) (by omega) rfl ?_; intro w1 hblk1 hb1; have q0 := hblk1.rep (j := 0) (by omega); have f0 := hblk1.frz 0))
      have HB1 := Lib.hid hblk1
      clear hblk1 q0 f0
      go_loopw [10, 36] (fun o i wr => ∃ k o' : Nat, k ≤ xs.length ∧ i = .int .i64 k ∧ o = .int .i64 o' ∧ o' ≤ 9 ∧ Hid ((o' : Int) = 1 + tot (zs.take k)) ∧ Blk wr w.heap.size 5 (bytes ((op : Int) :: body zs (xs.take k))) ∧ Below w.heap.size w wr) (fun _ i _ => xs.length - (intOf i).toNat)
      case atStart =>
        refine ⟨0, 1, Nat.zero_le _, rfl, rfl, by omega, Lib.hid (by simp [tot]), ?_, hb1.setCell (Nat.le_refl _) _⟩
        have h1 := HB1.out.set 0 (.int .u8 op)
        have e1 : (List.replicate n (Value.int .u8 0)).set 0 (.int .u8 op) = bytes ((op : Int) :: body zs (xs.take 0)) := by
          have h2 := body_length zs [] HW.out.nonneg
          have h3 := HNL.out
          rw [List.take_zero, body_nil zs, show n = (body zs []).length + 1 by omega]
          simp [bytes, List.replicate_succ]
        rw [← e1]
        exact h1
      case round =>
        obtain ⟨k, o, hk, rfl, rfl, ho9, HO, hblk, hb⟩ := hrel
        by_cases hlt : k < xs.length
        · have hltz : k < zs.length := by omega
          have hcz := (hb.cell (World.block_lt_of_cell? w _ (HROW.out k hltz))).trans (HROW.out k hltz)
          have hcx := (hb.cell (World.block_lt_of_cell? w _ (HX.out k hlt))).trans (HX.out k hlt)
          obtain ⟨A, C, e1, e2, e3⟩ := body_part zs xs k hltz hlt HW.out.nonneg
          have hz := HW.out.2 zs[k] (List.getElem_mem _)
          have HS := Lib.hid (tot_snoc zs k hltz)
          have HOA : Hid (((op : Int) :: A).length = o) := Lib.hid (by have := HO.out; simp; omega)
          have hon : (o : Int) + zs[k] ≤ n := by
            have h1 := HO.out
            have h2 := HNL.out
            have h3 := tot_append (zs.take (k + 1)) (zs.drop (k + 1))
            rw [List.take_append_drop] at h3
            have h4 := tot_nonneg (zs.drop (k + 1)) (fun z hz => HW.out.nonneg z (List.mem_of_mem_drop hz))
            have h5 := HS.out
            omega
          rw [e1] at hblk
          have HE2 := Lib.hid e2
          have HBL := Lib.hid hblk
          clear e1 e2 e3 hblk
          generalize zs[k] = z at *
          generalize xs[k] = x at *
          rcases hz with rfl | rfl | rfl
          · have q0 : wr.cell? ⟨w.heap.size, o, none⟩ = some (.int .u8 0) := by rw [HBL.out.cell?, ← HOA.out]; simp [bytes]
            have f0 := HBL.out.frz o
            have g0 : o < n := by omega
            go_wp2
            go_roundw
            case rel =>
              refine ⟨k + 1, o + 1, hlt, by go_num, by go_num, by omega, Lib.hid (by rw [HS.out]; have := HO.out; omega), ?_, hb.setCell (Nat.le_refl _) _⟩
              rw [HE2.out]
              have h1 := HBL.out.set o (.int .u8 (x % 256))
              have e1 : (bytes ((op : Int) :: (A ++ (List.replicate (Int.toNat 1) 0 ++ C)))).set o (.int .u8 (x % 256)) = bytes ((op : Int) :: (A ++ (field (Int.toNat 1) x ++ C))) := by
                have h2 := set_at' (A := bytes ((op : Int) :: A)) (C := bytes C) (x := .int .u8 0) (y := .int .u8 (x % 256)) (n := o) (by simpa [bytes] using HOA.out)
                simpa [bytes, field] using h2
              rw [← e1]
              exact h1
            case measure => simp [intOf]; omega
          · have q0 : wr.cell? ⟨w.heap.size, o, none⟩ = some (.int .u8 0) := by rw [HBL.out.cell?, ← HOA.out]; simp [bytes]
            have q1 : wr.cell? ⟨w.heap.size, o + 1, none⟩ = some (.int .u8 0) := by rw [HBL.out.cell?, ← HOA.out]; simp [bytes]
            have f0 := HBL.out.frz o
            have f1 := HBL.out.frz (o + 1)
            have g0 : o < n := by omega
            have g1 : o + 1 < n := by omega
            go_wp2
            go_roundw
            case rel =>
              refine ⟨k + 1, o + 2, hlt, by go_num, by go_num, by omega, Lib.hid (by rw [HS.out]; have := HO.out; omega), ?_, (hb.setCell (Nat.le_refl _) _).setCell (Nat.le_refl _) _⟩
              rw [HE2.out, u16w]
              have h1 := (HBL.out.set o (.int .u8 (x % 65536 / 256 % 256))).set (o + 1) (.int .u8 (x % 65536 % 256))
              have e1 : ((bytes ((op : Int) :: (A ++ (List.replicate (Int.toNat 2) 0 ++ C)))).set o (.int .u8 (x % 65536 / 256 % 256))).set (o + 1) (.int .u8 (x % 65536 % 256)) = bytes ((op : Int) :: (A ++ (field (Int.toNat 2) x ++ C))) := by
                have h2 := set2 (bytes ((op : Int) :: A)) (bytes C) (.int .u8 0) (.int .u8 0) (.int .u8 (x % 65536 / 256 % 256)) (.int .u8 (x % 65536 % 256)) o (by simpa [bytes] using HOA.out)
                have h3 : x % 65536 / 256 % 256 = x / 256 % 256 := by omega
                have h4 : x % 65536 % 256 = x % 256 := by omega
                rw [h3, h4] at h2 ⊢
                rw [show Int.toNat 2 = 2 from rfl, field2]
                simpa [bytes, List.replicate_succ] using h2
              rw [← e1]
              exact h1
            case measure => simp [intOf]; omega
          · have q0 : wr.cell? ⟨w.heap.size, o, none⟩ = some (.int .u8 0) := by rw [HBL.out.cell?, ← HOA.out]; simp [bytes]
            have q1 : wr.cell? ⟨w.heap.size, o + 1, none⟩ = some (.int .u8 0) := by rw [HBL.out.cell?, ← HOA.out]; simp [bytes]
            have q2 : wr.cell? ⟨w.heap.size, o + 2, none⟩ = some (.int .u8 0) := by rw [HBL.out.cell?, ← HOA.out]; simp [bytes]
            have q3 : wr.cell? ⟨w.heap.size, o + 3, none⟩ = some (.int .u8 0) := by rw [HBL.out.cell?, ← HOA.out]; simp [bytes]
            have f0 := HBL.out.frz o
            have f1 := HBL.out.frz (o + 1)
            have f2 := HBL.out.frz (o + 2)
            have f3 := HBL.out.frz (o + 3)
            have g0 : o < n := by omega
            have g1 : o + 1 < n := by omega
            have g2 : o + 2 < n := by omega
            have g3 : o + 3 < n := by omega
            go_wp2
            go_roundw
            case rel =>
              refine ⟨k + 1, o + 4, hlt, by go_num, by go_num, by omega, Lib.hid (by rw [HS.out]; have := HO.out; omega), ?_, (((hb.setCell (Nat.le_refl _) _).setCell (Nat.le_refl _) _).setCell (Nat.le_refl _) _).setCell (Nat.le_refl _) _⟩
              rw [HE2.out]
              have h1 := (((HBL.out.set o (.int .u8 (x % 4294967296 / 16777216))).set (o + 1) (.int .u8 (x % 4294967296 / 65536 % 256))).set (o + 2) (.int .u8 (x % 4294967296 / 256 % 256))).set (o + 3) (.int .u8 (x % 256))
              have h2 := set4 (bytes ((op : Int) :: A)) (bytes C) (.int .u8 0) (.int .u8 0) (.int .u8 0) (.int .u8 0) (.int .u8 (x % 4294967296 / 16777216)) (.int .u8 (x % 4294967296 / 65536 % 256)) (.int .u8 (x % 4294967296 / 256 % 256)) (.int .u8 (x % 256)) o (by simpa [bytes] using HOA.out)
              have h3 : x % 4294967296 / 16777216 = x / 16777216 % 256 := by omega
              have h4 : x % 4294967296 / 65536 % 256 = x / 65536 % 256 := by omega
              have h5 : x % 4294967296 / 256 % 256 = x / 256 % 256 := by omega
              have e0 : bytes ((op : Int) :: (A ++ (List.replicate (Int.toNat 4) 0 ++ C))) = bytes ((op : Int) :: A) ++ .int .u8 0 :: .int .u8 0 :: .int .u8 0 :: .int .u8 0 :: bytes C := by
                simp [bytes, List.replicate_succ]
              have e1 : bytes ((op : Int) :: (A ++ (field (Int.toNat 4) x ++ C))) = bytes ((op : Int) :: A) ++ .int .u8 (x / 16777216 % 256) :: .int .u8 (x / 65536 % 256) :: .int .u8 (x / 256 % 256) :: .int .u8 (x % 256) :: bytes C := by
                rw [show Int.toNat 4 = 4 from rfl, field4]
                simp [bytes]
              rw [e0, h2] at h1
              rw [e1]
              rw [h3, h4, h5] at h1 ⊢
              exact h1
            case measure => simp [intOf]; omega
        · obtain rfl : k = xs.length := by omega
          rw [List.take_length] at hblk
          have HBL := Lib.hid hblk
          clear hblk
          go_wp2
          go_ret
          exact ⟨by rw [← HN.out]; rfl, HBL.out, hb⟩
end Go.Proofs.YtjnoodilpffbiaaFmt.Mk
