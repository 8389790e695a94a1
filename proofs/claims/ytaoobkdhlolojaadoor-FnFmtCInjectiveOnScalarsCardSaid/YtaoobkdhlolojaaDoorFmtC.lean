/- fmtC: the rune's encoding, padded, is added behind what the buffer holds. -/
import Derived.Test.YtaoobkdhlolojaaDoorNewF
import Derived.Test.YtaoobkdhlolojaaDoorRune
import Derived.Outline
namespace Go.Proofs.YtaoobkdhlolojaaDoor.Fm
open Go.ChangeShapes Go.WideShapes Go.ChangeAt Go.RowKit Go.Fmt

/-- The rune that fmtC encodes. -/
def runeOf (c : Int) : Int := if 1114111 < c then 65533 else c

theorem src_enc {w : World} {base F B : Nat} (r : Int) (hF : F < base) (hne : F ≠ B) (hc : ∀ j, j < (encI r).length → ∃ v, w.cell? ⟨F, 15 + j, none⟩ = some v) : Src (w.setCells F 15 ((encI r).map (.int .u8))) base B (some ⟨F, 15, none⟩) (encB r) := by
  refine .inr ⟨F, 15, rfl, hF, hne, fun j hj => ?_⟩
  have hj' : j < (encI r).length := by simpa [encB] using hj
  have h := World.cell?_setCells_in F ((encI r).map (.int .u8)) 15 w (fun i hi => by obtain ⟨v, hv⟩ := hc i (by simpa using hi); rw [hv]; rfl) j (by simpa using hj')
  rw [h]
  have hb := encI_byte r (encI r)[j] (List.getElem_mem _)
  simp only [encB, List.getElem_map]
  rw [UInt8.toNat_ofNat']
  congr 2
  omega

set_option maxRecDepth 100000 in
set_option maxHeartbeats 1000000 in
theorem fmtC (N base F B : Nat) (f : Flags) (bs : List UInt8) (c : Int) (w : World) (h : Live w N base F B f bs) (hg1 : w.cell? ⟨0, 0, none⟩ = some (.int .i64 2147483647))
    (hc0 : 0 ≤ c) (hc1 : c ≤ 18446744073709551615) (hl : bs.length ≤ 1000000000) (hwl : -1073741824 ≤ f.wid) (hwl2 : f.wid ≤ 1073741823) :
    Calls Tryd.prog 29 #[.pointer (some ⟨F, 0, none⟩), .int .u64 c] w fun e w' => e = .returned (.tuple #[]) ∧ Live w' N base F B f (bs ++ padded f (encB (runeOf c))) ∧ Below N w w' := by
  have hr : runeOf c ≤ 1114111 ∧ 0 ≤ runeOf c := by unfold runeOf; split <;> omega
  obtain ⟨he1, he2⟩ := encI_length (runeOf c)
  have hcells : ∀ j, j < (encI (runeOf c)).length → (∃ v, w.cell? ⟨F, 15 + j, none⟩ = some v) ∧ w.frozen? ⟨F, 15 + j, none⟩ = false := fun j hj => ⟨h.fmt.scratch _ (by omega) (by omega), h.fmt.frz _⟩
  have hE := Lib.hid (fun L C => encodeRune F 15 L C (runeOf c) w (by omega) (by omega))
  have hS := src_enc (w := w) (base := base) (B := B) (runeOf c) h.hf h.ne (fun j hj => (hcells j hj).1)
  obtain ⟨hl2, hb2⟩ := h.setScratch 15 ((encI (runeOf c)).map (.int .u8)) (Nat.le_refl _)
  by_cases hbig : 1114111 < c
  · have hro : runeOf c = 65533 := if_pos hbig
    rw [hro] at hr he1 he2 hcells hE hS hl2 hb2 ⊢
    have hm2 := maxl_below hb2 h.maxl hg1
    have hlen : (encB (65533)).length = (encI (65533)).length := by simp [encB]
    have hP0 := padLive N base F B f bs (encB (65533)) (some ⟨F, 15, none⟩) 68 _ hl2 hS (fun e => by cases e) (by omega) hm2 (by omega) hwl hwl2
    rw [hlen] at hP0
    have hP := Lib.hid hP0
    have hE2 := Lib.hid (hE.out 4 68 (by omega) hcells)
    clear hP0 hE hS hcells hlen hro hg1 hm2
    generalize hll : (encI (65533)).length = m at *
    have HM := Lib.hid hll
    clear hll
    go_enter Tryd.func29, Tryd.ntmps29
    go_wp2_with (fail)
    refine hE2.out.mono ?_
    rintro e w2 ⟨rfl, hw2⟩
    rw [hw2] at hP hl2 hb2
    clear hw2 hE2
    go_wp2_with (fail)
    refine hP.out.mono ?_
    rintro e w3 ⟨rfl, h4, h5⟩
    go_wp2
    go_end0
    exact ⟨rfl, h4, hb2.trans h5⟩
  · have hro : runeOf c = c := if_neg hbig
    rw [hro] at hr he1 he2 hcells hE hS hl2 hb2 ⊢
    have hm2 := maxl_below hb2 h.maxl hg1
    have hlen : (encB (c)).length = (encI (c)).length := by simp [encB]
    have hP0 := padLive N base F B f bs (encB (c)) (some ⟨F, 15, none⟩) 68 _ hl2 hS (fun e => by cases e) (by omega) hm2 (by omega) hwl hwl2
    rw [hlen] at hP0
    have hP := Lib.hid hP0
    have hE2 := Lib.hid (hE.out 4 68 (by omega) hcells)
    clear hP0 hE hS hcells hlen hro hg1 hm2
    generalize hll : (encI (c)).length = m at *
    have HM := Lib.hid hll
    clear hll
    go_enter Tryd.func29, Tryd.ntmps29
    go_wp2_with (fail)
    refine hE2.out.mono ?_
    rintro e w2 ⟨rfl, hw2⟩
    rw [hw2] at hP hl2 hb2
    clear hw2 hE2
    go_wp2_with (fail)
    refine hP.out.mono ?_
    rintro e w3 ⟨rfl, h4, h5⟩
    go_wp2
    go_end0
    exact ⟨rfl, h4, hb2.trans h5⟩

set_option maxRecDepth 100000 in
set_option maxHeartbeats 2000000 in
theorem zzFmtC (f : Flags) (c : Int) (wid prec : Int) (wp pp mi pl sh sp ze : Bool) (hf : f = ⟨wp, pp, mi, pl, sh, sp, ze, wid, prec⟩) (w : World) (hg1 : w.cell? ⟨0, 0, none⟩ = some (.int .i64 2147483647))
    (hc0 : 0 ≤ c) (hc1 : c ≤ 18446744073709551615) (hwl : 0 ≤ wid) (hwl2 : wid ≤ 65536) :
    Calls Tryd.prog 11 #[.int .u64 c, .int .i64 wid, .int .i64 prec, .bool wp, .bool pp, .bool mi, .bool pl, .bool sh, .bool sp, .bool ze] w fun e w' => e = .returned (.string ⟨(padded f (encB (runeOf c))).toArray⟩) ∧ Below w.heap.size w w' := by
  have hM : 0 < w.heap.size := World.block_lt_of_cell? w ⟨0, 0, none⟩ hg1
  have hbel : ∀ {arr : Array Value}, Below w.heap.size w ((w.alloc (.cells #[.slice none 0 0] 49)).alloc (.cells arr 55)) := ((Below.refl _ _).alloc (Nat.le_refl _) _).alloc (by simp) _
  have hw' : f.wid = wid := by rw [hf]
  rw [← hw'] at hwl hwl2
  have HF := Lib.hid hf
  clear hf hw'
  go_enter Tryd.func11, Tryd.ntmps11
  go_wp2_with (fail)
  refine (fmtC w.heap.size (w.heap.size + 2) (w.heap.size + 1) w.heap.size f [] c _ ?hL ?hm hc0 hc1 (by simp) (by omega) (by omega)).mono ?_
  case hL =>
    have hz : Tryd.zeroCells55.size = 83 := Tryd.zeroCells55_size
    refine litLive w f _ hM ?_ ?_ ?_ ?_ ?_ ?_ ?_ ?_ ?_ ?_ ?_
    all_goals ((try rw [HF.out]); simp [hz])
  case hm => exact maxl_below hbel hM hg1
  rintro e w2 ⟨rfl, hl2, hb2⟩
  rw [List.nil_append] at hl2
  obtain ⟨p, cap, h1, h2, h3, h4, h5, h6, h7⟩ := hl2.buf
  have hcv := conv_own (P := Tryd.prog) (src := 49) (dst := 9) _ rfl h3 Tryd.underlying49 Tryd.underlying5 Tryd.underlying9
  clear hg1
  go_wp2
  go_ret
  exact ⟨rfl, hbel.trans hb2⟩
end Go.Proofs.YtaoobkdhlolojaaDoor.Fm
