/- Bytecode.CountObjects over what zzCountConsts laid. -/
import Derived.Test.YtehfbmkaojlbeaaGreatCf
namespace Go.Proofs.YtehfbmkaojlbeaaGreat.Co
open Go.ChangeShapes Go.WideShapes Go.ChangeAt Go.RowKit Go.Maps Go.Lib
/-- The sum over the first i constants. -/
def sumN (ks ms : Nat → Nat) : Nat → Nat
  | 0 => 0
  | i + 1 => sumN ks ms i + objN (ks i) (ms i)
theorem objN_le (k m : Nat) : objN k m ≤ 2 + m := by unfold objN; split <;> (try split) <;> omega
theorem sumN_le (ks ms : Nat → Nat) (n : Nat) (h : ∀ j, j < n → ms j < 65536) : ∀ i, i ≤ n → sumN ks ms i ≤ i * 65538
  | 0, _ => Nat.le_refl _
  | i + 1, hi => by
    have h1 := sumN_le ks ms n h i (by omega)
    have h2 := objN_le (ks i) (ms i)
    have h3 := h i (by omega)
    rw [sumN, Nat.succ_mul]
    omega
set_option maxRecDepth 100000 in
set_option maxHeartbeats 2000000 in
theorem bcCount (B n : Nat) (vo : Value) (vals : List Value) (ks ms : Nat → Nat) (W0 w w1 : World) (S : St W0 ks ms n vo w vals) (h16 : ∀ j, j < n → ms j < 65536) (hn : n ≤ 65536) (hg : w.grownBy w1 none) (hB : w1.cell? ⟨B, 2, none⟩ = some vo) :
    Calls Tryz.prog 8 #[.pointer (some ⟨B, 0, none⟩)] w1 fun e w' => e = .returned (.int .i64 (sumN ks ms n)) ∧ Below w1.heap.size w1 w' := by
  have hform : ∃ q cap, vo = .slice q n cap ∧ ∀ j (hj : j < vals.length), ∃ g, q = some ⟨g, 0, none⟩ ∧ w1.cell? ⟨g, j, none⟩ = some vals[j] := by
    have own1 := S.own.kept hg (by cases hv : vo.ownBlock <;> simp)
    rcases own1.2 with ⟨e1, e2⟩ | ⟨g, c, cur, e1, _⟩
    · exact ⟨_, _, by rw [e1, e2], fun j hj => by have := S.len; omega⟩
    · refine ⟨_, _, e1, fun j hj => ⟨g, rfl, ?_⟩⟩
      have hc := own1.cells (g := g) (by rw [e1]; rfl) j vals[j] (by rw [List.getElem?_eq_getElem hj])
      rw [show (⟨g, j, none⟩ : Addr) = (⟨g, 0, none⟩ : Addr).add j by
        by_cases h : j = 0
        · subst h; rfl
        · simp [Addr.add, h]]
      exact hc
  obtain ⟨q, cap, rfl, hc⟩ := hform
  have hel : ∀ j (hj : j < vals.length), ∀ W, Below w1.heap.size w1 W → Says vals[j] (objN (ks j) (ms j)) W := fun j hj W hW => S.el j hj W ((hg.andThen (grown_of_below hW) (fun j hj => by cases hj)).but _)
  have HL := Lib.hid S.len
  have HC := Lib.hid hc
  have HE := Lib.hid hel
  have HS := Lib.hid (sumN_le ks ms n h16)
  clear hc hel S hg h16
  go_enter Tryz.func8, Tryz.ntmps8
  go_wp2
  go_loopw [3, 11] (fun vc vi wr => ∃ j : Nat, vi = .int .i64 j ∧ vc = .int .i64 ((sumN ks ms j : Nat) : Int) ∧ j ≤ n ∧ Hid (Below w1.heap.size w1 wr)) (fun _ vi _ => match vi with | .int _ z => n - z.toNat | _ => 0)
  case atStart => exact ⟨0, rfl, rfl, Nat.zero_le _, Lib.hid (Below.refl _ _)⟩
  case round =>
    obtain ⟨j, rfl, rfl, hj, hb⟩ := hrel
    by_cases hlt : j < n
    · have hlt' : (j : Int) < (n : Int) := by omega
      have hjv : j < vals.length := by rw [HL.out]; exact hlt
      obtain ⟨g, rfl, hcc⟩ := HC.out j hjv
      have hc' : wr.cell? ⟨g, j, none⟩ = some vals[j] := (hb.out.cell (p := ⟨g, j, none⟩) (World.block_lt_of_cell? w1 _ hcc)).trans hcc
      have HV := Lib.hid (HE.out j hjv wr hb.out)
      have hsum := HS.out (j + 1) (by omega)
      have hsn : sumN ks ms (j + 1) = sumN ks ms j + objN (ks j) (ms j) := rfl
      have HSN := Lib.hid hsn
      obtain ⟨s0, hs0⟩ : ∃ s0, s0 = sumN ks ms j := ⟨_, rfl⟩
      obtain ⟨o0, ho0⟩ : ∃ o0, o0 = objN (ks j) (ms j) := ⟨_, rfl⟩
      obtain ⟨v0, hv0⟩ : ∃ v0, v0 = vals[j] := ⟨_, rfl⟩
      have hbd : s0 + o0 ≤ 5000000000 := by rw [hs0, ho0, ← hsn]; omega
      rw [← hv0] at hc' HV
      rw [← ho0] at HV
      rw [← hs0]
      have HS0 := Lib.hid hs0
      have HO0 := Lib.hid ho0
      clear hcc hsum hsn hs0 ho0 hv0
      go_wp2_with (fail)
      refine HV.out.mono ?_
      rintro e w2 ⟨rfl, hb2⟩
      go_wp2_with (fail)
      go_roundw
      case rel => exact ⟨j + 1, by simp, by rw [HSN.out, ← HS0.out, ← HO0.out]; simp, by omega, Lib.hid (hb.out.trans (hb2.mono hb.out.size))⟩
      case measure => simp only []; omega
    · have hlt' : ¬ (j : Int) < (n : Int) := by omega
      have hjn : j = n := by omega
      subst hjn
      go_wp2
      go_ret
      exact ⟨rfl, hb.out⟩
end Go.Proofs.YtehfbmkaojlbeaaGreat.Co
