/- zzItoa: the decimal text. -/
import Derived.Test.YtehfbmkaojlbeaaGreatCo
import Derived.Lib.ItoaNum
import Derived.Laws.IdiomStrings
namespace Go.Proofs.YtehfbmkaojlbeaaGreat.Co
open Go.ChangeShapes Go.WideShapes Go.ChangeAt Go.RowKit Go.Lib

/-- The digits that are still to be laid. -/
def preD (u : Nat) : List UInt8 := if u = 0 then [] else decDigits u
theorem preD_step {u : Nat} (h : 0 < u) : preD u = preD (u / 10) ++ [UInt8.ofNat (48 + u % 10)] := by
  unfold preD
  rw [if_neg (by omega), decDigits]
  by_cases h10 : u < 10
  · rw [dif_pos h10, if_pos (by omega), Nat.mod_eq_of_lt h10]; rfl
  · rw [dif_neg h10, if_neg (by omega)]
/-- The buffer: the digits D from place i on. -/
structure Dg (w : World) (b i : Nat) (D : List UInt8) : Prop where
  len : i + D.length = 24
  at_ : ∀ j (hj : j < D.length), w.cell? ⟨b, i + j, none⟩ = some (.int .u8 (D[j].toNat : Int))
  there : ∀ j, j < 24 → ∃ v, w.cell? ⟨b, j, none⟩ = some v
  frz : ∀ j, w.frozen? ⟨b, j, none⟩ = false
theorem Dg.set {w : World} {b i : Nat} {D : List UInt8} (h : Dg w b (i + 1) D) (x : UInt8) : Dg (w.setCell ⟨b, i, none⟩ (.int .u8 (x.toNat : Int))) b i (x :: D) := by
  have hl := h.len
  refine ⟨by simp; omega, fun j hj => ?_, fun j hj => ?_, fun j => by rw [World.frozen?_setCell]; exact h.frz j⟩
  · match j with
    | 0 =>
      obtain ⟨v, hv⟩ := h.there i (by omega)
      exact World.cell?_setCell_same _ _ _ hv
    | j + 1 =>
      rw [World.cell?_setCell_other _ _ _ _ (fun e => by have := congrArg Addr.off e; simp at this)]
      have := h.at_ j (by simpa using hj)
      rw [show i + (j + 1) = i + 1 + j by omega]
      exact this
  · by_cases hij : i = j
    · subst hij
      obtain ⟨v, hv⟩ := h.there i hj
      exact ⟨_, World.cell?_setCell_same _ _ _ hv⟩
    · obtain ⟨v, hv⟩ := h.there j hj
      exact ⟨v, (World.cell?_setCell_other _ _ _ _ (fun e => hij (congrArg Addr.off e))).trans hv⟩
set_option maxRecDepth 100000 in
set_option maxHeartbeats 2000000 in
theorem itoa (n : Nat) (w : World) (hn : n ≤ 65536) : Calls Tryz.prog 9 #[.int .i64 n] w fun e w' => e = .returned (.string ⟨(decDigits n).toArray⟩) ∧ Below w.heap.size w w' := by
  by_cases h0 : n = 0
  · subst h0
    have h0 : decDigits 0 = [48] := by rw [decDigits, dif_pos (by decide)]; rfl
    rw [h0]
    go_enter Tryz.func9, Tryz.ntmps9
    go_wp2
    go_ret
    exact ⟨rfl, Below.refl _ _⟩
  · have h1 : ¬ (n : Int) ≤ 0 := by omega
    go_enter Tryz.func9, Tryz.ntmps9
    go_wp2
    go_loopw [0, 4] (fun vn vi wr => ∃ (k u : Nat) (D : List UInt8), vn = .int .i64 u ∧ vi = .int .i64 ((19 + k : Nat) : Int) ∧ Hid (u < 10 ^ k) ∧ u ≤ 65536 ∧ Hid (preD u ++ D = decDigits n) ∧ Hid (Dg wr w.heap.size (19 + k) D) ∧ Hid (Below w.heap.size w wr))
      (fun vn _ _ => match vn with | .int _ z => z.toNat | _ => 0)
    case atStart =>
      refine ⟨5, n, [], rfl, rfl, Lib.hid (by omega), hn, Lib.hid (by simp [preD, h0]), Lib.hid ⟨rfl, fun j hj => by simp at hj, fun j hj => ?_, fun j => ?_⟩, Lib.hid ((Below.refl _ _).alloc (Nat.le_refl _) _)⟩
      · have : j = 0 ∨ j = 1 ∨ j = 2 ∨ j = 3 ∨ j = 4 ∨ j = 5 ∨ j = 6 ∨ j = 7 ∨ j = 8 ∨ j = 9 ∨ j = 10 ∨ j = 11 ∨ j = 12 ∨ j = 13 ∨ j = 14 ∨ j = 15 ∨ j = 16 ∨ j = 17 ∨ j = 18 ∨ j = 19 ∨ j = 20 ∨ j = 21 ∨ j = 22 ∨ j = 23 := by omega
        rcases this with rfl | rfl | rfl | rfl | rfl | rfl | rfl | rfl | rfl | rfl | rfl | rfl | rfl | rfl | rfl | rfl | rfl | rfl | rfl | rfl | rfl | rfl | rfl | rfl <;> simp
      · unfold World.frozen?
        rw [heap_alloc_new]
        simp
    case round =>
      obtain ⟨k, u, D, rfl, rfl, hk, hu, hp, hd, hb⟩ := hrel
      by_cases hpos : 0 < u
      · have hpos' : (0 : Int) < (u : Int) := by omega
        obtain ⟨k, rfl⟩ : ∃ j, k = j + 1 := ⟨k - 1, by
          rcases Nat.eq_zero_or_pos k with e | e
          · rw [e] at hk; have := hk.out; omega
          · omega⟩
        obtain ⟨i, hi⟩ : ∃ i, i = 19 + k := ⟨_, rfl⟩
        have hlen := hd.out.len
        have hi24 : i < 24 := by omega
        obtain ⟨v, hv⟩ := hd.out.there i hi24
        have hf := hd.out.frz i
        have e1 : 19 + (k + 1) = i + 1 := by omega
        rw [e1] at hd ⊢
        have hw8 : IntKind.u8.wrap (48 + (u : Int) % 10) = 48 + (u : Int) % 10 := by simp [IntKind.wrap, IntKind.signed, IntKind.bits]; omega
        have HI := Lib.hid hi
        have HL := Lib.hid hlen
        clear hi hlen e1
        go_wp2_with (fail)
        go_roundw
        case rel =>
          have hx : ((UInt8.ofNat (48 + u % 10)).toNat : Int) = 48 + (u : Int) % 10 := by rw [UInt8.toNat_ofNat']; omega
          rw [← hx]
          refine ⟨k, u / 10, UInt8.ofNat (48 + u % 10) :: D, by simp, by rw [HI.out], Lib.hid ?_, by omega, Lib.hid ?_, Lib.hid ?_, Lib.hid ?_⟩
          · have := hk.out; rw [Nat.pow_succ] at this; omega
          · rw [← hp.out, preD_step hpos, List.append_assoc]; rfl
          · rw [← HI.out]; exact hd.out.set _
          · exact hb.out.setCell (Nat.le_refl _) _
        case measure => simp only []; omega
      · have hpos' : ¬ (0 : Int) < (u : Int) := by omega
        obtain rfl : u = 0 := by omega
        obtain ⟨i, hi⟩ : ∃ i, i = 19 + k := ⟨_, rfl⟩
        rw [← hi] at hd ⊢
        have hlen := hd.out.len
        have hi24 : i ≤ 24 := by omega
        have hi24' : (i : Int) ≤ 24 := by omega
        have hD : D = decDigits n := by have := hp.out; simpa [preD] using this
        have hDl : 1 ≤ D.length := by rw [hD, decDigits_length]; exact nDigits_pos n
        have hi23 : ¬ 24 = i := by omega
        have hcv := run_convert_bytes_back (P := Tryz.prog) wr 22 9 5 ⟨w.heap.size, i, none⟩ (24 - i) D Tryz.underlying22 Tryz.underlying5 Tryz.underlying9 (fun j hj => by
          rw [show (⟨w.heap.size, i, none⟩ : Addr).add j = ⟨w.heap.size, i + j, none⟩ by
            by_cases h : j = 0
            · subst h; rfl
            · simp [Addr.add, h]]
          exact hd.out.at_ j hj)
        rw [show D.length = 24 - i by omega, hD] at hcv
        have HDl := Lib.hid hDl
        have HLN := Lib.hid hlen
        clear hlen hi hD hDl
        go_wp2
        go_ret
        exact ⟨rfl, hb.out⟩
theorem decDigits_inj {a b : Nat} (h : decDigits a = decDigits b) : a = b := by
  induction a using Nat.strongRecOn generalizing b with
  | _ a ih =>
    have hl : ∀ u : Nat, (decDigits u).length = nDigits u := decDigits_length
    by_cases ha : a < 10 <;> by_cases hb : b < 10
    · rw [decDigits_one ha, decDigits_one hb] at h
      have h := congrArg (fun x : UInt8 => x.toNat) (List.cons.inj h).1
      simp only [UInt8.toNat_ofNat'] at h
      omega
    · have := congrArg List.length h
      rw [hl, hl, nDigits_small ha, nDigits_big hb] at this
      have := nDigits_pos (b / 10)
      omega
    · have := congrArg List.length h
      rw [hl, hl, nDigits_small hb, nDigits_big ha] at this
      have := nDigits_pos (a / 10)
      omega
    · rw [decDigits, dif_neg ha, decDigits.eq_1 b, dif_neg hb] at h
      obtain ⟨h1, h2⟩ := List.append_inj' h (by simp)
      have e := ih (a / 10) (by omega) h1
      have h2 := congrArg (fun x : UInt8 => x.toNat) (List.cons.inj h2).1
      simp only [UInt8.toNat_ofNat'] at h2
      omega
end Go.Proofs.YtehfbmkaojlbeaaGreat.Co
