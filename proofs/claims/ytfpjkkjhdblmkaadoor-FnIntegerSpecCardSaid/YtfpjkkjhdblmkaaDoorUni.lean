/- fmtUnicode: 'U+', the digits filled with 0, the quoted character; padded. -/
import Derived.Test.YtfpjkkjhdblmkaaDoorIntF
import Derived.Test.YtfpjkkjhdblmkaaDoorRune
namespace Go.Proofs.YtfpjkkjhdblmkaaDoor.Fm
open Go.ChangeShapes Go.WideShapes Go.ChangeAt Go.RowKit Go.Fmt Go.Num

/-- The quoted character, the places, the text. -/
def quoteB (q : Bool) (u : Int) : List UInt8 := if q then 32 :: 39 :: (encB u ++ [39]) else []
def uprec (f : Flags) : Nat := if f.precP && decide (4 < f.prec) then f.prec.toNat else 4
def uniB (p m : Nat) (q : Bool) (u : Int) : List UInt8 := 85 :: 43 :: (fillB p (repr 16 upper m) ++ quoteB q u)
theorem quoteB_len (q : Bool) (u : Int) : (quoteB q u).length ≤ 7 := by
  have := (encI_length u).2
  unfold quoteB encB; split <;> simp; omega
/-- Many bytes stored at once, from place i on. -/
theorem St.puts {w0 w : World} {N F B G O L i : Nat} {f : Flags} {t : List UInt8} (cs : List UInt8) (h : St w0 w N F B G O L (i + cs.length) f t) (vs : List Value) (hv : vs = cs.map fun c => Value.int .u8 (c.toNat : Int)) : St w0 (w.setCells G (O + i) vs) N F B G O L i f (cs ++ t) := by
  have hL := h.tail.1
  have hvl : vs.length = cs.length := by rw [hv]; simp
  have hw : Wr G O w (w.setCells G (O + i) vs) := by
    refine ⟨?_, ?_, ?_, setCells_size _ _ _ _, fun k hk => setCells_block G hk vs _ w, fun j hj => World.cell?_setCells_out G vs (O + i) w ⟨G, j, none⟩ (fun _ _ => .inl (by show j < O + i; omega)), fun j hj => setCells_some G vs (O + i) w _ hj, fun j => World.frozen?_setCells ..⟩
    · exact (setCells_below (B := G) (Nat.le_refl _) vs (O + i) (Below.refl _ w)).os
    · exact (setCells_below (B := G) (Nat.le_refl _) vs (O + i) (Below.refl _ w)).tape
    · exact (setCells_below (B := G) (Nat.le_refl _) vs (O + i) (Below.refl _ w)).output
  refine ⟨h.fr.wr h.at0 hw, h.at0.wr hw, ⟨by simp; omega, fun j hj => ?_⟩, h.bel.trans (hw.below h.at0.ng)⟩
  by_cases hj2 : j < cs.length
  · have hh := World.cell?_setCells_in G vs (O + i) w (fun k hk => by obtain ⟨v, hv'⟩ := (h.at0.room (i + k) (by omega)).1; rw [Nat.add_assoc, hv']; rfl) j (by omega)
    rw [hh, List.getElem_append_left hj2]
    subst hv
    simp
  · rw [World.cell?_setCells_out G vs (O + i) w ⟨G, O + i + j, none⟩ (fun _ _ => .inr (by show O + i + vs.length ≤ O + i + j; omega))]
    have hjl : j - cs.length < t.length := by simp at hj; omega
    have h2 := h.tail.2 (j - cs.length) hjl
    rw [show O + (i + cs.length) + (j - cs.length) = O + i + j by omega] at h2
    rw [h2, List.getElem_append_right (by omega)]
theorem runeLenI_enc {r : Int} (h : Scalar r) : runeLenI r = (encB r).length := by
  obtain ⟨h0, h1, h2⟩ := h
  unfold runeLenI encB encI
  rw [List.length_map]
  repeat' split
  all_goals first | rfl | omega

theorem up_dig (j : Nat) (h : j < ByteArray.size ⟨#[48, 49, 50, 51, 52, 53, 54, 55, 56, 57, 65, 66, 67, 68, 69, 70, 88]⟩) : (⟨#[48, 49, 50, 51, 52, 53, 54, 55, 56, 57, 65, 66, 67, 68, 69, 70, 88]⟩ : ByteArray)[j]'h = upper.getD j 0 := str_dig _ true rfl j h
theorem dig_16 (m : Nat) (h : m ≤ 18446744073709551615) : (dig 16 m).length ≤ 16 := by
  have key : ∀ (k u : Nat), u < 16 ^ (k + 1) → (dig 16 u).length ≤ k + 1 := by
    intro k
    induction k with
    | zero => intro u hu; rw [dig_small (by simpa using hu)]; simp
    | succ k ih =>
      intro u hu
      by_cases hs : u < 16
      · rw [dig_small hs]; simp
      · rw [dig_big (by decide) (by omega), List.length_append]
        have := ih (u / 16) (by rw [Nat.pow_succ] at hu; omega)
        simp; omega
  exact key 15 m (by have : (16 : Nat) ^ (15 + 1) = 18446744073709551616 := by decide
                     omega)
set_option maxRecDepth 100000 in
set_option maxHeartbeats 4000000 in
theorem fmtUni (N F B : Nat) (f : Flags) (m : Nat) (pr q : Bool) (w : World) (h : Fresh w N F B f) (hg1 : w.cell? ⟨0, 0, none⟩ = some (.int .i64 2147483647))
    (hu1 : m ≤ 18446744073709551615) (hw0 : 0 ≤ f.wid) (hw1 : f.wid ≤ 65536) (hp0 : 0 ≤ f.prec) (hp1 : f.prec ≤ 65536) (hq : q = (f.sharp && decide (m ≤ 1114111) && pr))
    (hpr : f.sharp = true → m ≤ 1114111 → (∀ W, Below N w W → Calls Tryd.prog 24 #[.int .i32 m] W fun e w' => e = .returned (.bool pr) ∧ ∃ k, w' = W.drewN k) ∧ (pr = true → Scalar m)) :
    Calls Tryd.prog 20 #[.pointer (some ⟨F, 0, none⟩), .int .u64 m] w fun e w' => e = .returned (.tuple #[]) ∧ (∃ base, Live w' N base F B f (padded (f.z false) (uniB (uprec f) m q m))) ∧ Below N w w' := by
  have HF := Lib.hid h
  have HPR := Lib.hid hpr
  have HQ := Lib.hid hq
  have q2 := h.fmt.precP
  have q14 := h.fmt.prec
  obtain ⟨P, hP⟩ : ∃ P, P = uprec f := ⟨_, rfl⟩
  have HP := Lib.hid hP
  have hP4 : P ≤ 65536 := by rw [hP]; unfold uprec; split <;> omega
  clear h hpr hq hP
  go_enter Tryd.func20, Tryd.ntmps20
  go_upto_region 2 with (fail)
  refine wp_cut (fun a' w' => ∃ g : Nat → Value, ((g 1 = .int .u64 m ∧ g 4 = .slice (some ⟨F, 15, none⟩) 68 68 ∧ g 5 = .int .i64 4 ∧ g 24 = .bool (f.precP && decide (4 < f.prec))) ∧ w = w') ∧ a' = ⟨#[.pointer (some ⟨F, 0, none⟩), g 1, g 2, g 3, g 4, g 5, g 6, g 7, g 8, g 9, g 10, g 11, g 12, g 13, g 14, g 15, g 16, g 17, g 18, g 19, g 20, g 21, g 22, g 23, g 24, g 25, g 26, g 27, g 28, g 29, g 30, g 31, g 32, g 33, g 34, g 35, g 36, g 37, g 38, g 39, g 40, g 41, g 42, g 43, g 44, g 45, g 46, g 47, g 48, g 49, g 50, g 51, g 52, g 53, g 54, g 55, g 56, g 57, g 58, g 59, g 60, g 61, g 62, g 63, g 64, g 65, g 66, g 67, g 68, g 69, g 70, g 71, g 72, g 73, g 74, g 75, g 76, g 77, g 78, g 79, g 80, g 81, g 82, g 83, g 84, g 85, g 86, g 87, g 88, g 89, g 90, g 91, g 92, g 93, g 94, g 95, g 96, g 97, g 98, g 99, g 100, g 101, g 102, g 103, g 104, g 105, g 106, g 107, g 108, g 109, g 110, g 111, g 112, g 113, g 114, g 115, g 116, g 117, g 118, g 119, g 120, g 121, g 122, g 123, g 124, g 125, g 126, g 127, g 128, g 129, g 130, g 131, g 132, g 133, g 134, g 135, g 136, g 137, g 138, g 139, g 140, g 141, g 142], []⟩) ?rest ?first
  case first =>
    intro _ _ _ _
    obtain ⟨v2, e2⟩ : ∃ x, f.precP = x := ⟨_, rfl⟩
    rw [e2] at q2
    have E2 := Lib.hid e2
    clear e2
    cases v2
    · go_wp2
      refine Met.intro ?_
      go_step
      refine meetG (by kernel_rfl) ?_
      exact ⟨⟨rfl, rfl, rfl, by rw [E2.out]; rfl⟩, rfl⟩
    · by_cases h4 : 4 < f.prec
      · have hd : decide (4 < f.prec) = true := decide_eq_true h4
        have HD := Lib.hid hd
        go_wp2
        refine Met.intro ?_
        go_step
        refine meetG (by kernel_rfl) ?_
        exact ⟨⟨rfl, rfl, rfl, by rw [E2.out, HD.out]; rfl⟩, rfl⟩
      · have hd : decide (4 < f.prec) = false := decide_eq_false h4
        have HD := Lib.hid hd
        go_wp2
        refine Met.intro ?_
        go_step
        refine meetG (by kernel_rfl) ?_
        exact ⟨⟨rfl, rfl, rfl, by rw [E2.out, HD.out]; rfl⟩, rfl⟩
  case rest =>
  rintro _ wc ⟨g, ⟨⟨h1, h4, h5, h24⟩, rfl⟩, rfl⟩
  rw [h1, h4, h5, h24]
  clear h1 h4 h5 h24 q2
  go_upto_if 24 with (fail)
  refine wp_cut (fun a' w' => ∃ g : Nat → Value, ((g 1 = .int .u64 m ∧ g 5 = .int .i64 P) ∧ ∃ G O L : Nat, g 4 = .slice (some ⟨G, O, none⟩) L L ∧ Hid (Fresh w' N F B f ∧ At0 w' N F B G O L ∧ Below N w w' ∧ 68 ≤ L ∧ L ≤ 200000 ∧ P + 9 ≤ L)) ∧ a' = ⟨#[.pointer (some ⟨F, 0, none⟩), g 1, g 2, g 3, g 4, g 5, g 6, g 7, g 8, g 9, g 10, g 11, g 12, g 13, g 14, g 15, g 16, g 17, g 18, g 19, g 20, g 21, g 22, g 23, g 24, g 25, g 26, g 27, g 28, g 29, g 30, g 31, g 32, g 33, g 34, g 35, g 36, g 37, g 38, g 39, g 40, g 41, g 42, g 43, g 44, g 45, g 46, g 47, g 48, g 49, g 50, g 51, g 52, g 53, g 54, g 55, g 56, g 57, g 58, g 59, g 60, g 61, g 62, g 63, g 64, g 65, g 66, g 67, g 68, g 69, g 70, g 71, g 72, g 73, g 74, g 75, g 76, g 77, g 78, g 79, g 80, g 81, g 82, g 83, g 84, g 85, g 86, g 87, g 88, g 89, g 90, g 91, g 92, g 93, g 94, g 95, g 96, g 97, g 98, g 99, g 100, g 101, g 102, g 103, g 104, g 105, g 106, g 107, g 108, g 109, g 110, g 111, g 112, g 113, g 114, g 115, g 116, g 117, g 118, g 119, g 120, g 121, g 122, g 123, g 124, g 125, g 126, g 127, g 128, g 129, g 130, g 131, g 132, g 133, g 134, g 135, g 136, g 137, g 138, g 139, g 140, g 141, g 142], []⟩) ?rest ?first
  case first =>
    intro _ _ _ _
    by_cases hc : (f.precP && decide (4 < f.prec)) = true
    · have HPE : Hid ((P : Int) = f.prec) := Lib.hid (by rw [HP.out]; unfold uprec; rw [if_pos hc]; omega)
      have h4 : 4 < f.prec := by simp at hc; exact hc.2
      rw [hc]
      have hPi := HPE.out
      rw [← hPi] at q14
      clear hc hPi
      obtain ⟨W, hW⟩ : ∃ W : Nat, W = P + 9 := ⟨_, rfl⟩
      have hWb : W ≤ 140000 := by omega
      have hWi : 2 + (P : Int) + 2 + 4 + 1 = (W : Int) := by omega
      have hP4' : 4 < P := by have := HPE.out; omega
      have HWI := Lib.hid hW
      clear hW
      by_cases hbig : 68 < W
      · have hd : decide ((68 : Int) < (W : Int)) = true := by simp; omega
        go_wp2_with ((at_make; refine make_bytes rfl _ 46 rfl w.heap.size 5 Tryd.underlying46 info5 _ W rfl (by first | rfl | omega) (by omega) (Nat.le_refl _) ?_; intro w1 hown1 hb1 hsz1 hsame1))
        have hb1' : Below w.heap.size w w1 := ⟨hb1.os, hb1.tape, hb1.output, hb1.size, hb1.block⟩
        have HS : Hid (Fresh w1 N F B f ∧ At0 w1 N F B w.heap.size 0 W ∧ Below N w w1 ∧ 68 ≤ W ∧ W ≤ 200000 ∧ P + 9 ≤ W) := Lib.hid
          ⟨HF.out.grow hb1', ⟨by have := HF.out.ltb; omega, fun e => by have := HF.out.ltf; omega, by have := HF.out.lf; have := HF.out.ltf; omega, by simpa using hsz1, fun j hj => by
            have := own_cell hown1 (j := j) hj
            rw [Nat.zero_add]; exact this⟩, hb1'.mono (by have := HF.out.lf; have := HF.out.ltf; omega), by omega, by omega, by have := HWI.out; omega⟩
        clear hown1 hb1 hsz1 hsame1 hb1'
        refine Met.intro ?_
        go_step
        refine meetG (by kernel_rfl) ?_
        exact ⟨⟨rfl, rfl⟩, w.heap.size, 0, W, rfl, HS⟩
      · go_wp2
        refine Met.intro ?_
        go_step
        refine meetG (by kernel_rfl) ?_
        exact ⟨⟨rfl, rfl⟩, F, 15, 68, rfl, Lib.hid ⟨HF.out, HF.out.own, Below.refl _ _, by omega, by omega, by have := HWI.out; omega⟩⟩
    · rw [Bool.not_eq_true] at hc
      have HPE : Hid (P = 4) := Lib.hid (by rw [HP.out]; unfold uprec; rw [hc]; rfl)
      rw [hc]
      clear hc
      go_wp2
      refine Met.intro ?_
      go_step
      refine meetG (by kernel_rfl) ?_
      exact ⟨⟨rfl, by rw [HPE.out]; rfl⟩, F, 15, 68, rfl, Lib.hid ⟨HF.out, HF.out.own, Below.refl _ _, by omega, by omega, by have := HPE.out; omega⟩⟩
  case rest =>
  rintro _ wc ⟨g, ⟨⟨h1, h5⟩, G, O, L, h4, HS⟩, rfl⟩
  rw [h1, h4, h5]
  clear h1 h4 h5 q14
  have q5 := HS.out.1.fmt.sharp
  have hL68 : 68 ≤ L := HS.out.2.2.2.1
  have hLb : L ≤ 200000 := HS.out.2.2.2.2.1
  have hLP : P + 9 ≤ L := HS.out.2.2.2.2.2
  go_upto_region 8 with (fail)
  refine wp_cut (fun a' w' => ∃ g : Nat → Value, ((g 1 = .int .u64 m ∧ g 4 = .slice (some ⟨G, O, none⟩) L L ∧ g 5 = .int .i64 P ∧ g 7 = .int .i64 L ∧ g 55 = .bool q) ∧ Below wc.heap.size wc w') ∧ a' = ⟨#[.pointer (some ⟨F, 0, none⟩), g 1, g 2, g 3, g 4, g 5, g 6, g 7, g 8, g 9, g 10, g 11, g 12, g 13, g 14, g 15, g 16, g 17, g 18, g 19, g 20, g 21, g 22, g 23, g 24, g 25, g 26, g 27, g 28, g 29, g 30, g 31, g 32, g 33, g 34, g 35, g 36, g 37, g 38, g 39, g 40, g 41, g 42, g 43, g 44, g 45, g 46, g 47, g 48, g 49, g 50, g 51, g 52, g 53, g 54, g 55, g 56, g 57, g 58, g 59, g 60, g 61, g 62, g 63, g 64, g 65, g 66, g 67, g 68, g 69, g 70, g 71, g 72, g 73, g 74, g 75, g 76, g 77, g 78, g 79, g 80, g 81, g 82, g 83, g 84, g 85, g 86, g 87, g 88, g 89, g 90, g 91, g 92, g 93, g 94, g 95, g 96, g 97, g 98, g 99, g 100, g 101, g 102, g 103, g 104, g 105, g 106, g 107, g 108, g 109, g 110, g 111, g 112, g 113, g 114, g 115, g 116, g 117, g 118, g 119, g 120, g 121, g 122, g 123, g 124, g 125, g 126, g 127, g 128, g 129, g 130, g 131, g 132, g 133, g 134, g 135, g 136, g 137, g 138, g 139, g 140, g 141, g 142], []⟩) ?rest ?first
  case first =>
    intro _ _ _ _
    obtain ⟨v5, e5⟩ : ∃ x, f.sharp = x := ⟨_, rfl⟩
    rw [e5] at q5
    have E5 := Lib.hid e5
    clear e5
    cases v5
    · go_wp2
      refine Met.intro ?_
      go_step
      refine meetG (by kernel_rfl) ?_
      exact ⟨⟨rfl, rfl, rfl, rfl, by rw [HQ.out, E5.out]; rfl⟩, Below.refl _ _⟩
    · by_cases hmx : m ≤ 1114111
      · have hd : decide (m ≤ 1114111) = true := decide_eq_true hmx
        have HD := Lib.hid hd
        have hC := (HPR.out E5.out hmx).1
        have HCW : Hid (Calls Tryd.prog 24 #[.int .i32 m] wc fun e w' => e = .returned (.bool pr) ∧ ∃ k, w' = wc.drewN k) := Lib.hid (hC wc HS.out.2.2.1)
        go_wp2_with (fail)
        refine HCW.out.mono ?_
        rintro e w' ⟨rfl, k, rfl⟩
        go_wp2
        refine Met.intro ?_
        go_step
        refine meetG (by kernel_rfl) ?_
        exact ⟨⟨rfl, rfl, rfl, rfl, by rw [HQ.out, E5.out, HD.out]; rfl⟩, ⟨rfl, rfl, rfl, Nat.le_refl _, fun _ _ => rfl⟩⟩
      · have hd : decide (m ≤ 1114111) = false := decide_eq_false hmx
        have HD := Lib.hid hd
        go_wp2
        refine Met.intro ?_
        go_step
        refine meetG (by kernel_rfl) ?_
        exact ⟨⟨rfl, rfl, rfl, rfl, by rw [HQ.out, E5.out, HD.out]; rfl⟩, Below.refl _ _⟩
  case rest =>
  rintro _ w2 ⟨g, ⟨⟨h1, h4, h5, h7, h55⟩, hb2⟩, rfl⟩
  rw [h1, h4, h5, h7, h55]
  clear h1 h4 h5 h7 h55 q5
  have HST : Hid (St w w2 N F B G O L L f []) := Lib.hid (by
    have hfr := HS.out.1.grow hb2
    have ha := HS.out.2.1
    exact ⟨hfr, ⟨ha.gb, ha.gf, ha.ng, Nat.lt_of_lt_of_le ha.lt hb2.size, fun j hj => ⟨by obtain ⟨v, hv⟩ := (ha.room j hj).1; exact ⟨v, (hb2.cell (p := ⟨G, O + j, none⟩) ha.lt).trans hv⟩, (hb2.frozen (p := ⟨G, O + j, none⟩) ha.lt).trans (ha.room j hj).2⟩⟩, Tail.nil _ _ _ _, HS.out.2.2.1.trans (hb2.mono (Nat.le_of_lt (Nat.lt_of_le_of_lt ha.ng ha.lt)))⟩)
  clear hb2
  go_upto_if 55 with (fail)
  refine wp_cut (fun a' w' => ∃ g : Nat → Value, ((g 1 = .int .u64 m ∧ g 4 = .slice (some ⟨G, O, none⟩) L L ∧ g 5 = .int .i64 P) ∧ ∃ (i : Nat), g 7 = .int .i64 i ∧ Hid (St w w' N F B G O L i f (quoteB q m))) ∧ a' = ⟨#[.pointer (some ⟨F, 0, none⟩), g 1, g 2, g 3, g 4, g 5, g 6, g 7, g 8, g 9, g 10, g 11, g 12, g 13, g 14, g 15, g 16, g 17, g 18, g 19, g 20, g 21, g 22, g 23, g 24, g 25, g 26, g 27, g 28, g 29, g 30, g 31, g 32, g 33, g 34, g 35, g 36, g 37, g 38, g 39, g 40, g 41, g 42, g 43, g 44, g 45, g 46, g 47, g 48, g 49, g 50, g 51, g 52, g 53, g 54, g 55, g 56, g 57, g 58, g 59, g 60, g 61, g 62, g 63, g 64, g 65, g 66, g 67, g 68, g 69, g 70, g 71, g 72, g 73, g 74, g 75, g 76, g 77, g 78, g 79, g 80, g 81, g 82, g 83, g 84, g 85, g 86, g 87, g 88, g 89, g 90, g 91, g 92, g 93, g 94, g 95, g 96, g 97, g 98, g 99, g 100, g 101, g 102, g 103, g 104, g 105, g 106, g 107, g 108, g 109, g 110, g 111, g 112, g 113, g 114, g 115, g 116, g 117, g 118, g 119, g 120, g 121, g 122, g 123, g 124, g 125, g 126, g 127, g 128, g 129, g 130, g 131, g 132, g 133, g 134, g 135, g 136, g 137, g 138, g 139, g 140, g 141, g 142], []⟩) ?rest ?first
  case first =>
    intro _ _ _ _
    by_cases hqq : q = true
    · subst hqq
      have hq3 : f.sharp = true ∧ m ≤ 1114111 ∧ pr = true := by
        have := HQ.out
        simp at this
        exact ⟨this.1.1, this.1.2, this.2⟩
      have hsc := (HPR.out hq3.1 hq3.2.1).2 hq3.2.2
      have hmx := hq3.2.1
      obtain ⟨e, he⟩ : ∃ e, e = (encB m).length := ⟨_, rfl⟩
      have he4 : 1 ≤ e ∧ e ≤ 4 := by rw [he]; have := encI_length (m : Int); simpa [encB] using this
      have HRL : Hid (∀ W, Calls Tryd.prog 25 #[.int .i32 m] W fun e' w' => e' = .returned (.int .i64 (e : Nat)) ∧ W = w') := Lib.hid (fun W => by
        refine (runeLen (m : Int) W).mono ?_
        rintro e' w' ⟨rfl, rfl⟩
        rw [runeLenI_enc hsc, he]
        exact ⟨rfl, rfl⟩)
      have HEL : Hid ((encI (m : Int)).length = e) := Lib.hid (by rw [he]; simp [encB])
      have HE := Lib.hid he
      obtain ⟨k, rfl⟩ : ∃ k, L = k + 2 + e + 1 := ⟨L - e - 3, by omega⟩
      have hs1 := HST.out.put 39
      have hs1' : St w (w2.setCell ⟨G, O + (k + 2 + e), none⟩ (.int .u8 39)) N F B G O (k + 2 + e + 1) (k + 2 + e) f [39] := hs1
      have hs2 := St.puts (encB m) (by rw [← he]; exact hs1') ((encI (m : Int)).map (.int .u8)) (bcells_encB (m : Int)).symm
      obtain ⟨⟨c1, hc1⟩, hf1⟩ := HST.out.cell
      have hEN := encodeRune G (O + (k + 2)) (k + 2 + e - (k + 1)) (k + 2 + e - (k + 1)) (m : Int) (w2.setCell ⟨G, O + (k + 2 + e), none⟩ (.int .u8 39)) (by omega) (by omega) (by rw [HEL.out]; omega) (fun j hj => by
        have := hs1'.at0.room (k + 2 + j) (by rw [HEL.out] at hj; omega)
        rw [show O + (k + 2) + j = O + (k + 2 + j) by omega]
        exact this)
      have HEN := Lib.hid hEN
      obtain ⟨w4, hw4⟩ : ∃ w4, w4 = (w2.setCell ⟨G, O + (k + 2 + e), none⟩ (.int .u8 39)).setCells G (O + (k + 2)) ((encI (m : Int)).map (.int .u8)) := ⟨_, rfl⟩
      rw [← hw4] at hs2
      have HW4 := Lib.hid hw4
      have hs3 := St.put (i := k + 1) hs2 39
      obtain ⟨⟨c2, hc2⟩, hf2⟩ := St.cell (i := k + 1) hs2
      have hs4 := St.put hs3 32
      obtain ⟨⟨c3, hc3⟩, hf3⟩ := hs2.at0.room k (by omega)
      have HS4 : Hid (St w ((w4.setCell ⟨G, O + (k + 1), none⟩ (.int .u8 39)).setCell ⟨G, O + k, none⟩ (.int .u8 32)) N F B G O (k + 2 + e + 1) k f (quoteB true m)) := Lib.hid (by
        have : quoteB true (m : Int) = 32 :: 39 :: (encB m ++ [39]) := rfl
        rw [this]
        exact hs4)
      have i1 : (0 : Int) ≤ (k : Int) + 2 + (e : Int) := by omega
      have i2 : (k : Int) + 2 + (e : Int) < (k : Int) + 2 + (e : Int) + 1 := by omega
      have i3 : (0 : Int) ≤ (k : Int) + 2 := by omega
      have i4 : (0 : Int) ≤ (k : Int) + 1 := by omega
      have i5 : (0 : Int) ≤ (k : Int) := by omega
      have i6 : (k : Int) + 2 - 1 = (k : Int) + 1 := by omega
      clear hw4 hs1 hs1' hs2 hs3 hs4 hq3 hsc he hEN
      go_wp2_with ((go_at_call 25; refine (HRL.out _).mono ?_; rintro e' w' ⟨rfl, rfl⟩))
      refine HEN.out.mono ?_
      rintro e' w' ⟨rfl, hw'⟩
      rw [← HW4.out] at hw'
      subst hw'
      clear hc1 hf1
      go_wp2
      refine Met.intro ?_
      go_step
      refine meetG (by kernel_rfl) ?_
      exact ⟨⟨rfl, rfl, rfl⟩, k, rfl, HS4⟩
    · rw [Bool.not_eq_true] at hqq
      subst hqq
      go_wp2
      refine Met.intro ?_
      go_step
      refine meetG (by kernel_rfl) ?_
      exact ⟨⟨rfl, rfl, rfl⟩, L, rfl, Lib.hid HST.out⟩
  case rest =>
  rintro _ w3 ⟨g, ⟨⟨h1, h4, h5⟩, i, h7, HT⟩, rfl⟩
  rw [h1, h4, h5, h7]
  clear h1 h4 h5 h7 HST
  obtain ⟨Q, hQ⟩ : ∃ Q, Q = quoteB q m := ⟨_, rfl⟩
  rw [← hQ] at HT
  have hQ7 : Q.length ≤ 7 := by rw [hQ]; exact quoteB_len q m
  have HQB := Lib.hid hQ
  clear hQ
  have hLi := HT.out.tail.1
  obtain ⟨R, hR⟩ : ∃ R, R = repr 16 upper m := ⟨_, rfl⟩
  have hR16 : 1 ≤ R.length ∧ R.length ≤ 16 := by
    rw [hR]; unfold Go.Num.repr; rw [txt_length]
    exact ⟨dig_ne 16 m, dig_16 m hu1⟩
  have HR := Lib.hid hR
  clear hR
  go_upto_block 0 with (fail)
  refine wp_cut (fun a' w' => ∃ g : Nat → Value, ((g 4 = .slice (some ⟨G, O, none⟩) L L) ∧ ∃ (v i : Nat) (td : List UInt8), g 1 = .int .u64 v ∧ g 5 = .int .i64 ((P : Int) - (td.length : Int)) ∧ g 7 = .int .i64 i ∧ Hid (v < 16 ∧ St w w' N F B G O L i f (td ++ Q) ∧ R = repr 16 upper v ++ td)) ∧ a' = ⟨#[.pointer (some ⟨F, 0, none⟩), g 1, g 2, g 3, g 4, g 5, g 6, g 7, g 8, g 9, g 10, g 11, g 12, g 13, g 14, g 15, g 16, g 17, g 18, g 19, g 20, g 21, g 22, g 23, g 24, g 25, g 26, g 27, g 28, g 29, g 30, g 31, g 32, g 33, g 34, g 35, g 36, g 37, g 38, g 39, g 40, g 41, g 42, g 43, g 44, g 45, g 46, g 47, g 48, g 49, g 50, g 51, g 52, g 53, g 54, g 55, g 56, g 57, g 58, g 59, g 60, g 61, g 62, g 63, g 64, g 65, g 66, g 67, g 68, g 69, g 70, g 71, g 72, g 73, g 74, g 75, g 76, g 77, g 78, g 79, g 80, g 81, g 82, g 83, g 84, g 85, g 86, g 87, g 88, g 89, g 90, g 91, g 92, g 93, g 94, g 95, g 96, g 97, g 98, g 99, g 100, g 101, g 102, g 103, g 104, g 105, g 106, g 107, g 108, g 109, g 110, g 111, g 112, g 113, g 114, g 115, g 116, g 117, g 118, g 119, g 120, g 121, g 122, g 123, g 124, g 125, g 126, g 127, g 128, g 129, g 130, g 131, g 132, g 133, g 134, g 135, g 136, g 137, g 138, g 139, g 140, g 141, g 142], []⟩) ?rest ?first
  case first =>
    intro _ _ _ _
    have HIX : Hid (∀ (v i : Nat) (td : List UInt8) (wr : World), St w wr N F B G O L i f (td ++ Q) → R = repr 16 upper v ++ td → (∃ k, i = k + 1 ∧ k < L) ∧ td.length ≤ 15) := Lib.hid (fun v i td wr h1 h2 => by
      have h3 := congrArg List.length h2
      rw [List.length_append] at h3
      have h5 := h1.tail.1
      rw [List.length_append] at h5
      have h6 : 1 ≤ (repr 16 upper v).length := by unfold Go.Num.repr; rw [txt_length]; exact dig_ne 16 v
      exact ⟨⟨i - 1, by omega, by omega⟩, by omega⟩)
    go_wp2_with (fail)
    refine wp_loop (fun a' w' => ∃ g : Nat → Value, ((g 4 = .slice (some ⟨G, O, none⟩) L L) ∧ ∃ (v i : Nat) (td : List UInt8), g 1 = .int .u64 v ∧ g 5 = .int .i64 ((P : Int) - (td.length : Int)) ∧ g 7 = .int .i64 i ∧ v ≤ m ∧ Hid (St w w' N F B G O L i f (td ++ Q) ∧ R = repr 16 upper v ++ td)) ∧ a' = ⟨#[.pointer (some ⟨F, 0, none⟩), g 1, g 2, g 3, g 4, g 5, g 6, g 7, g 8, g 9, g 10, g 11, g 12, g 13, g 14, g 15, g 16, g 17, g 18, g 19, g 20, g 21, g 22, g 23, g 24, g 25, g 26, g 27, g 28, g 29, g 30, g 31, g 32, g 33, g 34, g 35, g 36, g 37, g 38, g 39, g 40, g 41, g 42, g 43, g 44, g 45, g 46, g 47, g 48, g 49, g 50, g 51, g 52, g 53, g 54, g 55, g 56, g 57, g 58, g 59, g 60, g 61, g 62, g 63, g 64, g 65, g 66, g 67, g 68, g 69, g 70, g 71, g 72, g 73, g 74, g 75, g 76, g 77, g 78, g 79, g 80, g 81, g 82, g 83, g 84, g 85, g 86, g 87, g 88, g 89, g 90, g 91, g 92, g 93, g 94, g 95, g 96, g 97, g 98, g 99, g 100, g 101, g 102, g 103, g 104, g 105, g 106, g 107, g 108, g 109, g 110, g 111, g 112, g 113, g 114, g 115, g 116, g 117, g 118, g 119, g 120, g 121, g 122, g 123, g 124, g 125, g 126, g 127, g 128, g 129, g 130, g 131, g 132, g 133, g 134, g 135, g 136, g 137, g 138, g 139, g 140, g 141, g 142], []⟩) (fun a' _ => (intOf (a'.tmps.getD 1 undef)).toNat) ?start ?round
    case start =>
      refine meetG (by kernel_rfl) ?_
      exact ⟨rfl, m, i, [], rfl, by simp; rfl, rfl, Nat.le_refl _, Lib.hid ⟨HT.out, by rw [List.append_nil]; exact HR.out⟩⟩
    case round =>
      rintro _ wr ⟨g, ⟨h4, v, i, td, h1, h5, h7, hvm, HX⟩, rfl⟩
      rw [h4, h1, h5, h7]
      clear h4 h1 h5 h7
      obtain ⟨⟨k, rfl, hkL⟩, htd⟩ := HIX.out v i td wr HX.out.1 HX.out.2
      obtain ⟨⟨cv, hcv⟩, hfv⟩ := HX.out.1.cell
      have hk0 : (0 : Int) ≤ (k : Int) := by omega
      have hk1 : (k : Int) < (L : Int) := by omega
      have hx := u64_and15 (v : Int) (by omega) (by omega)
      have hss : (0 : Int) ≤ (v : Int) % 16 := by omega
      have hss2 : (v : Int) % 16 < 17 := by omega
      have hss3 : v % 16 < 17 := by omega
      by_cases hlt : 16 ≤ v
      · go_wp2
        have hp := HX.out.1.put (upper.getD (v % 16) 0)
        have hs := HR.out.trans (repr_step (b := 16) (by decide) hlt (HR.out.symm.trans HX.out.2))
        refine ⟨meetG (by kernel_rfl) ?_, ?_⟩
        · refine ⟨rfl, v / 16, k, upper.getD (v % 16) 0 :: td, rfl, ?_, rfl, by omega, Lib.hid ⟨?_, hs⟩⟩
          · rw [show (P : Int) - ((upper.getD (v % 16) 0 :: td).length : Int) = (P : Int) - (td.length : Int) - 1 by simp; omega]; rfl
          · rw [up_dig]
            exact hp
        · simp [intOf]; omega
      · go_wp2
        refine Met.intro ?_
        go_step
        refine meetG (by kernel_rfl) ?_
        exact ⟨rfl, v, k + 1, td, rfl, rfl, rfl, Lib.hid ⟨by omega, HX.out.1, HX.out.2⟩⟩
  case rest =>
  rintro _ w4 ⟨g, ⟨h4, v, i2, td, h1, h5, h7, HX⟩, rfl⟩
  rw [h4, h1, h5, h7]
  clear h4 h1 h5 h7
  have hv16 : v < 16 := HX.out.1
  have hll := congrArg List.length HX.out.2.2
  rw [List.length_append] at hll
  have hll2 : 1 ≤ (repr 16 upper v).length := by unfold Go.Num.repr; rw [txt_length]; exact dig_ne 16 v
  have hti := HX.out.2.1.tail.1
  rw [List.length_append] at hti
  obtain ⟨k, rfl⟩ : ∃ k, i2 = k + 1 := ⟨i2 - 1, by omega⟩
  have hkL : k < L := by omega
  obtain ⟨⟨cv, hcv⟩, hfv⟩ := HX.out.2.1.cell
  have hk0 : (0 : Int) ≤ (k : Int) := by omega
  have hk1 : (k : Int) < (L : Int) := by omega
  have hv17 : v < 17 := by omega
  have hv17' : (v : Int) < 17 := by omega
  have hv0 : (0 : Int) ≤ (v : Int) := by omega
  have hRd : R = upper.getD v 0 :: td := HR.out.trans (repr_done (b := 16) hv16 (HR.out.symm.trans HX.out.2.2))
  have htR : (td.length : Int) + 1 = (R.length : Int) := by rw [hRd]; simp
  have HRD := Lib.hid hRd
  have HTR := Lib.hid htR
  have htd : td.length ≤ 15 := by omega
  clear hll hll2 hti hRd htR hLi
  go_upto_block 2 with (fail)
  obtain ⟨w5, hw5⟩ : ∃ w5, w5 = w4.setCell ⟨G, O + k, none⟩ (.int .u8 ((upper.getD v 0).toNat : Int)) := ⟨_, rfl⟩
  have HS5 : Hid (St w w5 N F B G O L k f (R ++ Q)) := Lib.hid (by
    rw [HRD.out, hw5]
    exact HX.out.2.1.put _)
  rw [up_dig v hv17, ← hw5]
  clear hw5 hcv hfv hv17 hv17' hv0
  refine wp_cut (fun a' w' => ∃ g : Nat → Value, ((g 4 = .slice (some ⟨G, O, none⟩) L L) ∧ ∃ (i : Nat) (tz : List UInt8), g 7 = .int .i64 i ∧ Hid (St w w' N F B G O L i f (tz ++ Q) ∧ tz = fillB P R ∧ 2 ≤ i)) ∧ a' = ⟨#[.pointer (some ⟨F, 0, none⟩), g 1, g 2, g 3, g 4, g 5, g 6, g 7, g 8, g 9, g 10, g 11, g 12, g 13, g 14, g 15, g 16, g 17, g 18, g 19, g 20, g 21, g 22, g 23, g 24, g 25, g 26, g 27, g 28, g 29, g 30, g 31, g 32, g 33, g 34, g 35, g 36, g 37, g 38, g 39, g 40, g 41, g 42, g 43, g 44, g 45, g 46, g 47, g 48, g 49, g 50, g 51, g 52, g 53, g 54, g 55, g 56, g 57, g 58, g 59, g 60, g 61, g 62, g 63, g 64, g 65, g 66, g 67, g 68, g 69, g 70, g 71, g 72, g 73, g 74, g 75, g 76, g 77, g 78, g 79, g 80, g 81, g 82, g 83, g 84, g 85, g 86, g 87, g 88, g 89, g 90, g 91, g 92, g 93, g 94, g 95, g 96, g 97, g 98, g 99, g 100, g 101, g 102, g 103, g 104, g 105, g 106, g 107, g 108, g 109, g 110, g 111, g 112, g 113, g 114, g 115, g 116, g 117, g 118, g 119, g 120, g 121, g 122, g 123, g 124, g 125, g 126, g 127, g 128, g 129, g 130, g 131, g 132, g 133, g 134, g 135, g 136, g 137, g 138, g 139, g 140, g 141, g 142], []⟩) ?rest ?first
  case first =>
    intro _ _ _ _
    go_wp2_with (fail)
    refine wp_loop (fun a' w' => ∃ g : Nat → Value, ((g 4 = .slice (some ⟨G, O, none⟩) L L) ∧ ∃ (i : Nat) (tz : List UInt8), g 5 = .int .i64 ((P : Int) - (tz.length : Int)) ∧ g 7 = .int .i64 i ∧ Hid (St w w' N F B G O L i f (tz ++ Q) ∧ Filled R tz P)) ∧ a' = ⟨#[.pointer (some ⟨F, 0, none⟩), g 1, g 2, g 3, g 4, g 5, g 6, g 7, g 8, g 9, g 10, g 11, g 12, g 13, g 14, g 15, g 16, g 17, g 18, g 19, g 20, g 21, g 22, g 23, g 24, g 25, g 26, g 27, g 28, g 29, g 30, g 31, g 32, g 33, g 34, g 35, g 36, g 37, g 38, g 39, g 40, g 41, g 42, g 43, g 44, g 45, g 46, g 47, g 48, g 49, g 50, g 51, g 52, g 53, g 54, g 55, g 56, g 57, g 58, g 59, g 60, g 61, g 62, g 63, g 64, g 65, g 66, g 67, g 68, g 69, g 70, g 71, g 72, g 73, g 74, g 75, g 76, g 77, g 78, g 79, g 80, g 81, g 82, g 83, g 84, g 85, g 86, g 87, g 88, g 89, g 90, g 91, g 92, g 93, g 94, g 95, g 96, g 97, g 98, g 99, g 100, g 101, g 102, g 103, g 104, g 105, g 106, g 107, g 108, g 109, g 110, g 111, g 112, g 113, g 114, g 115, g 116, g 117, g 118, g 119, g 120, g 121, g 122, g 123, g 124, g 125, g 126, g 127, g 128, g 129, g 130, g 131, g 132, g 133, g 134, g 135, g 136, g 137, g 138, g 139, g 140, g 141, g 142], []⟩) (fun a' _ => (intOf (a'.tmps.getD 7 undef)).toNat) ?start ?round
    case start =>
      refine meetG (by kernel_rfl) ?_
      exact ⟨rfl, k, R, by rw [show (P : Int) - (R.length : Int) = (P : Int) - (td.length : Int) - 1 by have := HTR.out; omega]; rfl, rfl, Lib.hid ⟨HS5.out, Filled.start _ _⟩⟩
    case round =>
      rintro _ wr ⟨g, ⟨h4, i, tz, h5, h7, HY⟩, rfl⟩
      rw [h4, h5, h7]
      clear h4 h5 h7
      have hti := HY.out.1.tail.1
      rw [List.length_append] at hti
      have htl := HY.out.2.2
      obtain ⟨j, rfl⟩ : ∃ j, i = j + 1 := ⟨i - 1, by omega⟩
      obtain ⟨⟨cv, hcv⟩, hfv⟩ := HY.out.1.cell
      have hj0 : (0 : Int) ≤ (j : Int) := by omega
      have hj1 : (j : Int) < (L : Int) := by omega
      by_cases hlt : tz.length < P
      · have hd : decide ((0 : Int) < (P : Int) - (tz.length : Int)) = true := by simp; omega
        go_wp2
        have hp : St w (wr.setCell ⟨G, O + j, none⟩ (.int .u8 48)) N F B G O L j f ((48 :: tz) ++ Q) := HY.out.1.put 48
        refine ⟨meetG (by kernel_rfl) ?_, ?_⟩
        · refine ⟨rfl, j, 48 :: tz, ?_, rfl, Lib.hid ⟨hp, HY.out.2.more hlt⟩⟩
          rw [show (P : Int) - ((48 :: tz : List UInt8).length : Int) = (P : Int) - (tz.length : Int) - 1 by simp; omega]; rfl
        · simp [intOf]
      · have hd : decide ((0 : Int) < (P : Int) - (tz.length : Int)) = false := by simp; omega
        go_wp2
        refine Met.intro ?_
        go_step
        refine meetG (by kernel_rfl) ?_
        exact ⟨rfl, j + 1, tz, rfl, Lib.hid ⟨HY.out.1, HY.out.2.done (by omega), by omega⟩⟩
  case rest =>
  rintro _ w6 ⟨g, ⟨h4, i, tz, h7, HZ⟩, rfl⟩
  rw [h4, h7]
  clear h4 h7
  obtain ⟨k6, rfl⟩ : ∃ k6, i = k6 + 1 + 1 := ⟨i - 2, by have := HZ.out.2.2; omega⟩
  have hti := HZ.out.1.tail.1
  obtain ⟨⟨cv, hcv⟩, hfv⟩ := HZ.out.1.cell
  obtain ⟨⟨cv2, hcv2⟩, hfv2⟩ := HZ.out.1.at0.room k6 (by omega)
  have hp1 := HZ.out.1.put 43
  have hp2 := hp1.put 85
  have hj0 : (0 : Int) ≤ (k6 : Int) := by omega
  have hj1 : (k6 : Int) < (L : Int) := by omega
  have hj2 : (0 : Int) ≤ (k6 : Int) + 1 := by omega
  have hj3 : (k6 : Int) + 1 < (L : Int) := by omega
  obtain ⟨w7, hw7⟩ : ∃ w7, w7 = (w6.setCell ⟨G, O + (k6 + 1), none⟩ (.int .u8 43)).setCell ⟨G, O + k6, none⟩ (.int .u8 85) := ⟨_, rfl⟩
  have HT7 : Hid (St w w7 N F B G O L k6 f (uniB P m q m)) := Lib.hid (by
    have e : uniB P m q (m : Int) = 85 :: 43 :: (tz ++ Q) := by
      unfold uniB; rw [HZ.out.2.1, HR.out, HQB.out]
    rw [e, hw7]; exact hp2)
  go_upto_region 33 with (fail)
  rw [← hw7]
  clear hw7 hp1 hp2 hcv hfv hcv2 hfv2
  obtain ⟨t7, ht7e⟩ : ∃ t7, t7 = uniB P m q (m : Int) := ⟨_, rfl⟩
  rw [← ht7e] at HT7
  have HFIN := Lib.hid ht7e
  have hiL := HT7.out.tail.1
  have ht7 : 1 ≤ t7.length := by rw [ht7e]; simp [uniB]
  have q7 := HT7.out.fr.fmt.zero
  have f7 := HT7.out.fr.fmt.frz 7
  have hlv := HT7.out.fr.live.setZ false
  have hsr := HT7.out.src.setZ (F := F) (z := false) (fun b' o' e1 e2 => by
    simp only [Option.some.injEq, Addr.mk.injEq, and_true] at e1
    have := HT7.out.at0.gf (by rw [e1.1]; exact e2)
    omega)
  have hm8 : (w7.setCell ⟨F, 7, none⟩ (.bool false)).cell? ⟨0, 0, none⟩ = some (.int .i64 2147483647) := by
    have h1 := HF.out.maxl
    have h2 := HF.out.lf
    rw [World.cell?_setCell_other _ _ _ _ (fun e => by have := congrArg Addr.block e; simp at this; omega)]
    exact maxl_below HT7.out.bel h1 hg1
  have hPad := padLive N w7.heap.size F B (f.z false) [] t7 (some ⟨G, O + k6, none⟩) t7.length _ hlv hsr (fun e => by cases e) (Nat.le_refl _) hm8 (by simp; omega) (by show -1073741824 ≤ f.wid; omega) (by show f.wid ≤ 1073741823; omega)
  have HPad := Lib.hid hPad
  have hi1 : (k6 : Int) ≤ (L : Int) := by omega
  have hneL : ¬ L = k6 := by omega
  have hLi : L - k6 = t7.length := by omega
  clear hPad hlv hsr hm8 hiL ht7 ht7e hti
  go_wp2_with (fail)
  refine HPad.out.mono ?_
  rintro e w9 ⟨rfl, hl9, hb9⟩
  rw [List.nil_append] at hl9
  have q7' := hl9.fmt.zero
  have f7' := hl9.fmt.frz 7
  have HL9 := Lib.hid (hl9.setZ f.zero)
  have HB9 := Lib.hid hb9
  clear hl9 hb9 q7 f7 HPad
  go_wp2
  go_end0
  refine ⟨rfl, ⟨w7.heap.size, ?_⟩, ?_⟩
  · rw [← HP.out, ← HFIN.out]
    exact HL9.out
  · have h1 : Below N w7 (w7.setCell ⟨F, 7, none⟩ (.bool false)) := (Below.refl _ _).setCell HF.out.lf _
    exact HT7.out.bel.trans (h1.trans (HB9.out.setCell HF.out.lf _))
end Go.Proofs.YtfpjkkjhdblmkaaDoor.Fm
