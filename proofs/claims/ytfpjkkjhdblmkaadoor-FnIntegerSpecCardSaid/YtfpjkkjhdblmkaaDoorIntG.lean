/- The wrappers round fmtInteger; the laws' own digit reader. -/
import Derived.Test.YtfpjkkjhdblmkaaDoorIntF
namespace Go.Proofs.YtfpjkkjhdblmkaaDoor.Fm
open Go.ChangeShapes Go.WideShapes Go.ChangeAt Go.RowKit Go.Fmt Go.Num

theorem zzOut (N base F B : Nat) (f : Flags) (bs : List UInt8) (w : World) (h : Live w N base F B f bs) :
    Calls Tryd.prog 9 #[.pointer (some ⟨F, 0, none⟩)] w fun e w' => e = .returned (.string ⟨bs.toArray⟩) ∧ w = w' := by
  obtain ⟨p, cap, h1, h2, h3, h4, h5, h6, h7⟩ := h.buf
  have q0 := h.fmt.buf
  have hcv := conv_own (P := Tryd.prog) (src := 47) (dst := 9) bs rfl h3 Tryd.underlying47 Tryd.underlying5 Tryd.underlying9
  go_enter Tryd.func9, Tryd.ntmps9
  go_wp2
  go_ret
  exact ⟨rfl, rfl⟩
theorem zzZero (N base F B : Nat) (f : Flags) (bs : List UInt8) (w : World) (h : Live w N base F B f bs) :
    Calls Tryd.prog 12 #[.pointer (some ⟨F, 0, none⟩)] w fun e w' => e = .returned (.bool f.zero) ∧ w = w' := by
  have q7 := h.fmt.zero
  go_enter Tryd.func12, Tryd.ntmps12
  go_wp2
  go_ret
  exact ⟨rfl, rfl⟩
theorem fresh_of {w : World} {f : Flags} {F B : Nat} {w' : World} (hM : 0 < w.heap.size) (h1 : w.heap.size ≤ F) (h2 : w.heap.size ≤ B) (h3 : F ≠ B) (h4 : FmtAt w' F ⟨B, 0, none⟩ f) (h5 : w'.cell? ⟨B, 0, none⟩ = some (.slice none 0 0)) (h6 : w'.frozen? ⟨B, 0, none⟩ = false) (h7 : F < w'.heap.size) (h8 : B < w'.heap.size) : Fresh w' w.heap.size F B f :=
  ⟨h4, h5, h6, h1, h2, h3, h7, h8, hM⟩

/-- What fmtInteger writes where it does not print nothing. -/
def outB (f : Flags) (neg : Bool) (vb : Int) (b : Nat) (up : Bool) (m : Nat) : List UInt8 := padded (f.z false) (numB neg f.plus f.space f.sharp (decide (vb = 79)) b (digs up) (prec0 f neg).toNat m)
def Mag (u : Int) (sg neg : Bool) (m : Nat) : Prop := (sg = false ∧ neg = false ∧ u = m) ∨ (sg = true ∧ neg = false ∧ u = m ∧ u ≤ 9223372036854775807) ∨ (sg = true ∧ neg = true ∧ u = 18446744073709551616 - m ∧ 0 < m ∧ m ≤ 9223372036854775808)
theorem mag_ex (u : Int) (sg : Bool) (h0 : 0 ≤ u) (h1 : u ≤ 18446744073709551615) : ∃ neg m, Mag u sg neg m := by
  cases sg
  · exact ⟨false, u.toNat, .inl ⟨rfl, rfl, by omega⟩⟩
  · by_cases h : u ≤ 9223372036854775807
    · exact ⟨false, u.toNat, .inr (.inl ⟨rfl, rfl, by omega, h⟩)⟩
    · exact ⟨true, (18446744073709551616 - u).toNat, .inr (.inr ⟨rfl, rfl, by omega, by omega, by omega⟩)⟩
theorem zFmtI (N F B : Nat) (f : Flags) (u : Int) (b : Nat) (sg neg : Bool) (m : Nat) (vb : Int) (up : Bool) (S : ByteArray) (w : World) (h : Fresh w N F B f) (hb : b = 2 ∨ b = 8 ∨ b = 10 ∨ b = 16) (hS : S = ⟨(digs up).toArray⟩) (hvb8 : vb = 79 → b = 8) (hg1 : w.cell? ⟨0, 0, none⟩ = some (.int .i64 2147483647))
    (hu0 : 0 ≤ u) (hu1 : u ≤ 18446744073709551615) (hn : Mag u sg neg m) (hw0 : 0 ≤ f.wid) (hw1 : f.wid ≤ 65536) (hp0 : 0 ≤ f.prec) (hp1 : f.prec ≤ 65536) (hnz : f.precP = true → f.prec = 0 → 0 < m) :
    Calls Tryd.prog 8 #[.pointer (some ⟨F, 0, none⟩), .int .u64 u, .int .i64 b, .bool sg, .int .i32 vb, .string S] w fun e w' => e = .returned (.tuple #[]) ∧ (∃ base, Live w' N base F B f (outB f neg vb b up m)) ∧ Below N w w' := by
  have hC := Lib.hid (fmtIntMain N F B f u b sg neg m vb S up w h hb hS hvb8 hg1 hu0 hu1 hn hw0 hw1 hp0 hp1 hnz)
  clear h hb hS hvb8 hg1 hn hnz
  go_enter Tryd.func8, Tryd.ntmps8
  go_wp2_with (fail)
  refine hC.out.mono ?_
  rintro e w' ⟨rfl, h1, h2⟩
  have H1 := Lib.hid h1
  clear h1
  go_wp2
  go_end0
  exact ⟨rfl, H1.out, h2⟩

theorem digitVal (d : Nat) (up : Bool) (S : ByteArray) (w : World) (hd : d < 16) (hS : S = ⟨(digs up).toArray⟩) :
    Calls Tryd.prog 10 #[.int .u8 (((digs up).getD d 0).toNat : Int), .string S] w fun e w' => e = .returned (.int .i64 d) ∧ w = w' := by
  have hS17 : S.size = 17 := by rw [hS]; exact digs_length up
  have HE : Hid (∀ j (h : j < S.size), S[j]'h = (digs up).getD j 0) := Lib.hid (fun j h => str_dig S up hS j h)
  have HI := Lib.hid (digs_inj up)
  have hSz : (17 : Int) ≤ (S.size : Int) := by omega
  have HZ := Lib.hid hS17
  obtain ⟨c, hc⟩ : ∃ c, c = (digs up).getD d 0 := ⟨_, rfl⟩
  have HC := Lib.hid hc
  rw [← hc]
  clear hS hS17 hc
  go_enter Tryd.func10, Tryd.ntmps10
  go_wp2
  go_loop [5] (fun iv => ∃ i : Nat, i ≤ d ∧ iv = .int .i64 i) (fun iv => 16 - (intOf iv).toNat)
  case atStart => exact ⟨0, Nat.zero_le _, rfl⟩
  case round =>
    obtain ⟨i, hi, rfl⟩ := hrel
    have hil : i < S.size := by rw [HZ.out]; omega
    have hi0 : (0 : Int) ≤ (i : Int) := by omega
    have hi1 : (i : Int) < (S.size : Int) := by omega
    have hi2 : (i : Int) < 16 := by omega
    by_cases hlt : i < d
    · have hne : (((S[i]'hil).toNat : Int) == (c.toNat : Int)) = false := by
        simp only [beq_eq_false_iff_ne]
        intro e
        have e2 : S[i]'hil = c := UInt8.toNat_inj.1 (by omega)
        rw [HE.out i hil, HC.out] at e2
        have := HI.out i (by omega) d hd e2
        omega
      go_wp2
      go_round
      case rel => exact ⟨i + 1, hlt, by go_num⟩
      case measure => simp [intOf]; omega
    · obtain rfl : i = d := by omega
      have hne : (((S[i]'hil).toNat : Int) == (c.toNat : Int)) = true := by
        rw [HE.out i hil, HC.out]; simp
      go_wp2
      go_ret
      exact ⟨rfl, rfl⟩
end Go.Proofs.YtfpjkkjhdblmkaaDoor.Fm
