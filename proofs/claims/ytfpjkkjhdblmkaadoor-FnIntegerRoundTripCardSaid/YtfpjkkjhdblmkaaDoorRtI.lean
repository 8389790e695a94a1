/- The law FnIntegerRoundTrip: its walk. -/
import Derived.Test.YtfpjkkjhdblmkaaDoorIntG
import Derived.Test.YtfpjkkjhdblmkaaDoorFrame
namespace Go.Proofs.YtfpjkkjhdblmkaaDoor.Fm
open Go.ChangeShapes Go.WideShapes Go.ChangeAt Go.RowKit Go.Fmt Go.Num

/-- The digits that are read back: with sharp in base 8 a leading 0 is added. -/
def rdDig (sh : Bool) (b m : Nat) : List Nat := if sh = true ∧ b = 8 ∧ m ≠ 0 then 0 :: dig b m else dig b m
theorem rdDig_val (sh : Bool) {b m : Nat} (hb : 2 ≤ b) : val b (rdDig sh b m) = m := by
  unfold rdDig; split
  · rw [val_zero, val_dig hb]
  · exact val_dig hb m
theorem rdDig_lt (sh : Bool) {b m : Nat} (hb : 2 ≤ b) : ∀ d ∈ rdDig sh b m, d < b := by
  unfold rdDig; split
  · intro d hd
    rcases List.mem_cons.1 hd with rfl | hd
    · omega
    · exact dig_lt hb m d hd
  · exact dig_lt hb m
theorem rdDig_ne (sh : Bool) (b m : Nat) : 0 < (rdDig sh b m).length := by
  unfold rdDig; split
  · simp
  · exact dig_ne b m
theorem dig_zero {b : Nat} (hb : 2 ≤ b) : dig b 0 = [0] := dig_small (by omega)
/-- The first digit is 0 where sharp stands in base 8, and else for a lone digit alone. -/
theorem rdDig_head8 {b m : Nat} (hb : b = 8) : (rdDig true b m).head? = some 0 := by
  unfold rdDig
  by_cases h : m = 0
  · subst h; rw [if_neg (by simp), dig_zero (by omega)]; rfl
  · rw [if_pos ⟨rfl, hb, h⟩]; rfl
theorem rdDig_headN {sh : Bool} {b m : Nat} (hb : 2 ≤ b) (h : ¬ (sh = true ∧ b = 8)) : (rdDig sh b m).head? ≠ some 0 ∨ (rdDig sh b m).length = 1 := by
  unfold rdDig
  rw [if_neg (fun h' => h ⟨h'.1, h'.2.1⟩)]
  by_cases h0 : m = 0
  · subst h0; rw [dig_zero hb]; exact .inr rfl
  · exact .inl (dig_head hb m h0)
/-- The text that is read: sign, prefix, digits. -/
def pre1 (neg plus : Bool) : List UInt8 := if neg then [45] else if plus then [43] else []
def pre2 (sh : Bool) (b : Nat) (ds : List UInt8) : List UInt8 := if sh = true ∧ b = 2 then [48, 98] else if sh = true ∧ b = 16 then [48, ds.getD 16 0] else []
theorem head_txt (up : Bool) {b m : Nat} (hb : 2 ≤ b) (hb2 : b ≤ 16) : ((repr b (digs up) m).head? = some 48 ↔ m = 0) := by
  unfold Go.Num.repr
  have h1 := dig_head hb m
  have h2 := dig_lt (b := b) hb m
  have h3 := dig_ne b m
  have hz : m = 0 → (dig b m).head? = some 0 := fun e => by rw [e, dig_zero hb]; rfl
  cases hd : dig b m with
  | nil => rw [hd] at h3; simp at h3
  | cons d r =>
    rw [hd] at h1 h2 hz
    have hdb := h2 d (by simp)
    have := digs_zero up d (by omega)
    simp only [txt, List.map_cons, List.head?_cons, Option.some.injEq] at *
    rw [this]
    exact ⟨fun e => Classical.byContradiction fun h => h1 h (by rw [e]), hz⟩
theorem numB_rt (neg plus sh : Bool) (b : Nat) (up : Bool) (m : Nat) (hb : b = 2 ∨ b = 8 ∨ b = 10 ∨ b = 16) : numB neg plus false sh false b (digs up) 0 m = pre1 neg plus ++ (pre2 sh b (digs up) ++ txt (digs up) (rdDig sh b m)) := by
  have hf : fillB 0 (repr b (digs up) m) = repr b (digs up) m := by simp [fillB]
  have hh := head_txt up (b := b) (m := m) (by omega) (by omega)
  have e1 : preB sh b (digs up) (repr b (digs up) m) = pre2 sh b (digs up) ++ txt (digs up) (rdDig sh b m) := by
    unfold preB pre2 sharpB rdDig
    cases sh
    · simp [Go.Num.repr]
    · rcases hb with rfl | rfl | rfl | rfl
      · simp [Go.Num.repr]
      · by_cases h0 : m = 0
        · rw [if_pos rfl, if_neg (by decide), if_pos rfl, if_pos (hh.2 h0), if_neg (by decide), if_neg (by decide), if_neg (by simp [h0])]; rfl
        · rw [if_pos rfl, if_neg (by decide), if_pos rfl, if_neg (fun e => h0 (hh.1 e)), if_neg (by decide), if_neg (by decide), if_pos ⟨rfl, rfl, h0⟩]
          have : (digs up).getD 0 0 = 48 := (digs_zero up 0 (by omega)).2 rfl
          simp only [txt, List.map_cons, this, Go.Num.repr, List.nil_append]
      · simp [Go.Num.repr]
      · simp [Go.Num.repr]
  unfold numB verbB signB pre1
  rw [hf, e1]
  cases neg <;> cases plus <;> simp

theorem digs_ge (up : Bool) : ∀ d, d < 16 → 48 ≤ ((digs up).getD d 0).toNat := by cases up <;> decide
theorem head_ge (sh : Bool) (b : Nat) (up : Bool) (l : List Nat) (hl : 0 < l.length) (T : List UInt8) (hT : T = pre2 sh b (digs up) ++ txt (digs up) l) (h : 0 < T.length) (hd : ∀ d ∈ l, d < 16) : 48 ≤ (T[0]'h).toNat := by
  subst hT
  cases l with
  | nil => simp at hl
  | cons d r =>
    unfold pre2 at h ⊢
    by_cases h2 : sh = true ∧ b = 2
    · simp [h2]
    · by_cases h3 : sh = true ∧ b = 16
      · simp [h3]
      · simp only [if_neg h2, if_neg h3]
        simp [txt]
        exact digs_ge up d (hd d (by simp))
theorem head_is (T : List UInt8) (c : UInt8) (r : List UInt8) (hT : T = c :: r) (h : 0 < T.length) : ((T[0]'h).toNat : Int) = (c.toNat : Int) := by subst hT; rfl
theorem rt_len (neg plus sh : Bool) (b : Nat) (up : Bool) (m : Nat) (hb : 2 ≤ b) (hm : m < 2 ^ 64) : (pre1 neg plus).length + ((pre2 sh b (digs up)).length + (rdDig sh b m).length) ≤ 70 := by
  have h1 : (pre1 neg plus).length ≤ 1 := by cases neg <;> cases plus <;> decide
  have h2 : (pre2 sh b (digs up)).length ≤ 2 := by
    unfold pre2
    by_cases h2 : sh = true ∧ b = 2
    · rw [if_pos h2]; decide
    · rw [if_neg h2]; split
      · exact Nat.le_refl _
      · exact Nat.zero_le _
  have h3 : (rdDig sh b m).length ≤ 65 := by
    have := dig_length hb 63 m hm
    unfold rdDig; split
    · simp; omega
    · omega
  omega
theorem pre_at (neg plus sh : Bool) (b : Nat) (up : Bool) (m : Nat) (T : List UInt8) (hT : T = pre1 neg plus ++ (pre2 sh b (digs up) ++ txt (digs up) (rdDig sh b m))) (i : Nat) (hi : i = (pre1 neg plus).length) (h0 : i < T.length) (h1 : i + 1 < T.length) (hp : (sh = true ∧ b = 2) ∨ (sh = true ∧ b = 16)) :
    ((T[i]'h0).toNat : Int) = 48 ∧ ((T[i + 1]'h1).toNat : Int) = if b = 2 then 98 else (((digs up).getD 16 0).toNat : Int) := by
  subst hT hi
  rcases hp with ⟨rfl, rfl⟩ | ⟨rfl, rfl⟩
  · constructor
    · rw [List.getElem_append_right (Nat.le_refl _)]; simp [pre2]
    · rw [List.getElem_append_right (by omega)]; simp [pre2]
  · constructor
    · rw [List.getElem_append_right (Nat.le_refl _)]; simp [pre2]
    · rw [List.getElem_append_right (by omega)]; simp [pre2]
theorem at_tail (A ds : List UInt8) (dl : List Nat) (T : List UInt8) (hT : T = A ++ txt ds dl) (s0 : Nat) (hs : A.length = s0) (j : Nat) (h : j < dl.length) (h1 : s0 + j < T.length) : T[s0 + j]'h1 = ds.getD dl[j] 0 := by
  subst hT hs
  rw [List.getElem_append_right (by omega)]
  simp [txt]
theorem u64_sub (m : Nat) (h0 : 0 < m) (h1 : m ≤ 9223372036854775808) : IntKind.u64.wrap (0 - (m : Int)) = 18446744073709551616 - m := by
  simp [IntKind.wrap, IntKind.signed, IntKind.bits]
  omega
theorem head_get (l : List Nat) (h : 0 < l.length) : l.head? = some (l[0]'h) := by
  cases l with
  | nil => simp at h
  | cons a r => rfl
theorem str_at (T : List UInt8) (X : ByteArray) (hX : X = ⟨T.toArray⟩) (i : Nat) (h : i < X.size) (h' : i < T.length) : X[i]'h = T[i] := by subst hX; rfl
set_option maxRecDepth 100000 in
set_option maxHeartbeats 4000000 in
theorem rtMain (u : Int) (b : Nat) (sg up plus sh neg : Bool) (m : Nat) (w : World) (hb : b = 2 ∨ b = 8 ∨ b = 10 ∨ b = 16) (hg1 : w.cell? ⟨0, 0, none⟩ = some (.int .i64 2147483647)) (hu0 : 0 ≤ u) (hu1 : u ≤ 18446744073709551615) (hn : Mag u sg neg m) :
    Calls Tryd.prog 3 #[.int .u64 u, .int .i64 b, .bool sg, .bool up, .bool plus, .bool sh] w fun e w' => e = .returned (.bool true) ∧ Below w.heap.size w w' := by
  have hM : 0 < w.heap.size := World.block_lt_of_cell? w ⟨0, 0, none⟩ hg1
  obtain ⟨S, hS⟩ : ∃ S : ByteArray, S = ⟨(digs up).toArray⟩ := ⟨_, rfl⟩
  have hS17 : S.size = 17 := by rw [hS]; exact digs_length up
  have HSS := Lib.hid hS
  have HSZ := Lib.hid hS17
  have HN := Lib.hid hn
  have M64 : Hid (m < 2 ^ 64) := Lib.hid (by rcases hn with ⟨_, _, h⟩ | ⟨_, _, h, _⟩ | ⟨_, _, _, _, h⟩ <;> omega)
  obtain ⟨f, hf⟩ : ∃ f : Flags, f = ⟨false, false, false, plus, sh, false, false, 0, 0⟩ := ⟨_, rfl⟩
  have HF := Lib.hid hf
  have HNF := Lib.hid (newF f false 0 false 0 false plus sh false false hf w)
  clear hS hS17 hf hn
  go_enter Tryd.func3, Tryd.ntmps3
  go_upto_region 1 with (fail)
  refine wp_cut (fun a' w' => ∃ g : Nat → Value, (g 37 = .bool false ∧ w = w') ∧ a' = ⟨#[.int .u64 u, .int .i64 b, .bool sg, .bool up, .bool plus, .bool sh, g 6, g 7, g 8, g 9, g 10, g 11, g 12, g 13, g 14, g 15, g 16, g 17, g 18, g 19, g 20, g 21, g 22, g 23, g 24, g 25, g 26, g 27, g 28, g 29, g 30, g 31, g 32, g 33, g 34, g 35, g 36, g 37, g 38, g 39, g 40, g 41, g 42, g 43, g 44, g 45, g 46, g 47, g 48, g 49, g 50, g 51, g 52, g 53, g 54, g 55, g 56, g 57, g 58, g 59, g 60, g 61, g 62, g 63, g 64, g 65, g 66, g 67, g 68, g 69, g 70, g 71, g 72, g 73, g 74, g 75, g 76, g 77, g 78, g 79, g 80, g 81, g 82, g 83, g 84, g 85, g 86, g 87, g 88, g 89, g 90, g 91, g 92, g 93, g 94, g 95, g 96, g 97, g 98, g 99, g 100, g 101, g 102, g 103, g 104, g 105, g 106, g 107, g 108, g 109, g 110, g 111, g 112, g 113, g 114, g 115, g 116, g 117, g 118, g 119, g 120, g 121, g 122, g 123, g 124, g 125, g 126, g 127, g 128, g 129, g 130, g 131, g 132, g 133, g 134, g 135, g 136, g 137, g 138, g 139, g 140, g 141, g 142, g 143, g 144, g 145, g 146, g 147, g 148, g 149, g 150, g 151, g 152, g 153, g 154, g 155, g 156, g 157, g 158, g 159, g 160, g 161, g 162, g 163, g 164, g 165, g 166, g 167, g 168, g 169, g 170, g 171, g 172, g 173, g 174, g 175, g 176, g 177, g 178, g 179, g 180, g 181, g 182, g 183, g 184, g 185, g 186, g 187, g 188, g 189, g 190, g 191, g 192, g 193, g 194, g 195, g 196, g 197, g 198, g 199, g 200, g 201, g 202, g 203, g 204, g 205, g 206, g 207, g 208], []⟩) ?rest ?first
  case first =>
    intro _ _ _ _
    rcases hb with hb | hb | hb | hb
    · have e2 : ((b : Int) != 2) = false := by simp; omega
      clear hb
      go_wp2
      refine Met.intro ?_
      go_step
      refine meetG (by kernel_rfl) ?_
      exact ⟨rfl, rfl⟩
    · have e2 : ((b : Int) != 2) = true := by simp; omega
      have e8 : ((b : Int) != 8) = false := by simp; omega
      clear hb
      go_wp2
      refine Met.intro ?_
      go_step
      refine meetG (by kernel_rfl) ?_
      exact ⟨rfl, rfl⟩
    · have e2 : ((b : Int) != 2) = true := by simp; omega
      have e8 : ((b : Int) != 8) = true := by simp; omega
      have e10 : ((b : Int) != 10) = false := by simp; omega
      clear hb
      go_wp2
      refine Met.intro ?_
      go_step
      refine meetG (by kernel_rfl) ?_
      exact ⟨rfl, rfl⟩
    · have e2 : ((b : Int) != 2) = true := by simp; omega
      have e8 : ((b : Int) != 8) = true := by simp; omega
      have e10 : ((b : Int) != 10) = true := by simp; omega
      have e16 : ((b : Int) != 16) = false := by simp; omega
      clear hb
      go_wp2
      refine Met.intro ?_
      go_step
      refine meetG (by kernel_rfl) ?_
      exact ⟨rfl, rfl⟩
  case rest =>
  rintro _ wc ⟨g, ⟨h37, rfl⟩, rfl⟩
  rw [h37]
  clear h37
  go_upto_if 38 with (fail)
  refine wp_cut (fun a' w' => ∃ g : Nat → Value, (g 13 = .string S ∧ w = w') ∧ a' = ⟨#[.int .u64 u, .int .i64 b, .bool sg, .bool up, .bool plus, .bool sh, g 6, g 7, g 8, g 9, g 10, g 11, g 12, g 13, g 14, g 15, g 16, g 17, g 18, g 19, g 20, g 21, g 22, g 23, g 24, g 25, g 26, g 27, g 28, g 29, g 30, g 31, g 32, g 33, g 34, g 35, g 36, g 37, g 38, g 39, g 40, g 41, g 42, g 43, g 44, g 45, g 46, g 47, g 48, g 49, g 50, g 51, g 52, g 53, g 54, g 55, g 56, g 57, g 58, g 59, g 60, g 61, g 62, g 63, g 64, g 65, g 66, g 67, g 68, g 69, g 70, g 71, g 72, g 73, g 74, g 75, g 76, g 77, g 78, g 79, g 80, g 81, g 82, g 83, g 84, g 85, g 86, g 87, g 88, g 89, g 90, g 91, g 92, g 93, g 94, g 95, g 96, g 97, g 98, g 99, g 100, g 101, g 102, g 103, g 104, g 105, g 106, g 107, g 108, g 109, g 110, g 111, g 112, g 113, g 114, g 115, g 116, g 117, g 118, g 119, g 120, g 121, g 122, g 123, g 124, g 125, g 126, g 127, g 128, g 129, g 130, g 131, g 132, g 133, g 134, g 135, g 136, g 137, g 138, g 139, g 140, g 141, g 142, g 143, g 144, g 145, g 146, g 147, g 148, g 149, g 150, g 151, g 152, g 153, g 154, g 155, g 156, g 157, g 158, g 159, g 160, g 161, g 162, g 163, g 164, g 165, g 166, g 167, g 168, g 169, g 170, g 171, g 172, g 173, g 174, g 175, g 176, g 177, g 178, g 179, g 180, g 181, g 182, g 183, g 184, g 185, g 186, g 187, g 188, g 189, g 190, g 191, g 192, g 193, g 194, g 195, g 196, g 197, g 198, g 199, g 200, g 201, g 202, g 203, g 204, g 205, g 206, g 207, g 208], []⟩) ?rest ?first
  case first =>
    intro _ _ _ _
    clear hb
    cases up
    · go_wp2
      refine Met.intro ?_
      go_step
      refine meetG (by kernel_rfl) ?_
      exact ⟨by rw [HSS.out]; rfl, rfl⟩
    · go_wp2
      refine Met.intro ?_
      go_step
      refine meetG (by kernel_rfl) ?_
      exact ⟨by rw [HSS.out]; rfl, rfl⟩
  case rest =>
  rintro _ wc ⟨g, ⟨h13, rfl⟩, rfl⟩
  rw [h13]
  clear h13
  go_wp2_with (fail)
  refine HNF.out.mono ?_
  rintro e w1 ⟨F, B, rfl, n1, n2, n3, n4, n5, n6, n7, n8, n9⟩
  have hfr := fresh_of hM n1 n2 n3 n4 n5 n6 n7 n8
  have HI := Lib.hid (zFmtI w.heap.size F B f u b sg neg m 118 up S w1 hfr hb HSS.out (fun h => by omega) (maxl_below n9 hM hg1) hu0 hu1 HN.out (by rw [HF.out]; exact Int.le_refl _) (by rw [HF.out]; exact (by decide : (0 : Int) ≤ 65536)) (by rw [HF.out]; exact Int.le_refl _) (by rw [HF.out]; exact (by decide : (0 : Int) ≤ 65536)) (fun h => by rw [HF.out] at h; cases h))
  have HB1 := Lib.hid n9
  clear n1 n2 n3 n4 n5 n6 n7 n8 n9 hfr HNF
  go_wp2_with (fail)
  refine HI.out.mono ?_
  rintro e w2 ⟨rfl, ⟨base, hl2⟩, hb2⟩
  obtain ⟨T, hT⟩ : ∃ T, T = outB f neg 118 b up m := ⟨_, rfl⟩
  rw [← hT] at hl2
  have HT : Hid (T = pre1 neg plus ++ (pre2 sh b (digs up) ++ txt (digs up) (rdDig sh b m))) := Lib.hid (by
    rw [hT, ← numB_rt neg plus sh b up m hb, HF.out]
    unfold outB padded
    rw [if_pos (.inl rfl)]
    simp [prec0])
  have HO := Lib.hid (zzOut w.heap.size base F B f T w2 hl2)
  have HB2 : Hid (Below w.heap.size w w2) := Lib.hid (HB1.out.trans hb2)
  clear hl2 hb2 hT HI
  go_wp2_with (fail)
  refine HO.out.mono ?_
  rintro e w' ⟨rfl, rfl⟩
  obtain ⟨X, hX⟩ : ∃ X : ByteArray, X = ⟨T.toArray⟩ := ⟨_, rfl⟩
  rw [← hX]
  have HX := Lib.hid hX
  have HAT : Hid (∀ i (h : i < X.size) (h' : i < T.length), X[i]'h = T[i]) := Lib.hid (fun i h h' => str_at T X hX i h h')
  have hXs : X.size = T.length := by rw [hX]; rfl
  have HXS := Lib.hid hXs
  clear hX hXs HO
  have hRD := rdDig_ne sh b m
  obtain ⟨i0, hi0⟩ : ∃ i0, i0 = (pre1 neg plus).length := ⟨_, rfl⟩
  have HI0 := Lib.hid hi0
  have hTl : T.length = (pre1 neg plus).length + ((pre2 sh b (digs up)).length + (rdDig sh b m).length) := by rw [HT.out]; simp [txt_length]
  have HTL := Lib.hid hTl
  have hX0 : 0 < X.size := by rw [HXS.out, hTl]; omega
  have hX0' : (0 : Int) < (X.size : Int) := by omega
  have hT0 : 0 < T.length := by rw [← HXS.out]; exact hX0
  clear hi0 hTl hRD
  go_upto_if 59 with (fail)
  refine wp_cut (fun a' w' => ∃ g : Nat → Value, ((g 13 = .string S ∧ g 15 = .string X ∧ g 16 = .int .i64 i0 ∧ g 17 = .bool neg ∧ g 18 = .bool (plus && !neg)) ∧ w2 = w') ∧ a' = ⟨#[.int .u64 u, .int .i64 b, .bool sg, .bool up, .bool plus, .bool sh, g 6, g 7, g 8, g 9, g 10, g 11, g 12, g 13, g 14, g 15, g 16, g 17, g 18, g 19, g 20, g 21, g 22, g 23, g 24, g 25, g 26, g 27, g 28, g 29, g 30, g 31, g 32, g 33, g 34, g 35, g 36, g 37, g 38, g 39, g 40, g 41, g 42, g 43, g 44, g 45, g 46, g 47, g 48, g 49, g 50, g 51, g 52, g 53, g 54, g 55, g 56, g 57, g 58, g 59, g 60, g 61, g 62, g 63, g 64, g 65, g 66, g 67, g 68, g 69, g 70, g 71, g 72, g 73, g 74, g 75, g 76, g 77, g 78, g 79, g 80, g 81, g 82, g 83, g 84, g 85, g 86, g 87, g 88, g 89, g 90, g 91, g 92, g 93, g 94, g 95, g 96, g 97, g 98, g 99, g 100, g 101, g 102, g 103, g 104, g 105, g 106, g 107, g 108, g 109, g 110, g 111, g 112, g 113, g 114, g 115, g 116, g 117, g 118, g 119, g 120, g 121, g 122, g 123, g 124, g 125, g 126, g 127, g 128, g 129, g 130, g 131, g 132, g 133, g 134, g 135, g 136, g 137, g 138, g 139, g 140, g 141, g 142, g 143, g 144, g 145, g 146, g 147, g 148, g 149, g 150, g 151, g 152, g 153, g 154, g 155, g 156, g 157, g 158, g 159, g 160, g 161, g 162, g 163, g 164, g 165, g 166, g 167, g 168, g 169, g 170, g 171, g 172, g 173, g 174, g 175, g 176, g 177, g 178, g 179, g 180, g 181, g 182, g 183, g 184, g 185, g 186, g 187, g 188, g 189, g 190, g 191, g 192, g 193, g 194, g 195, g 196, g 197, g 198, g 199, g 200, g 201, g 202, g 203, g 204, g 205, g 206, g 207, g 208], []⟩) ?rest ?first
  case first =>
    intro _ _ _ _
    cases neg
    · cases plus
      · have hx : 48 ≤ (T[0]'hT0).toNat := by
          have h1 : T = pre2 sh b (digs up) ++ txt (digs up) (rdDig sh b m) := by rw [HT.out]; rfl
          exact head_ge sh b up _ (rdDig_ne sh b m) T h1 hT0 (fun d hd => by have := rdDig_lt sh (b := b) (m := m) (by omega) d hd; omega)
        rw [← HAT.out 0 hX0 hT0] at hx
        have hq1 : (((X[0]'hX0).toNat : Int) == 45) = false := by simp; omega
        have hq2 : (((X[0]'hX0).toNat : Int) == 43) = false := by simp; omega
        clear hx
        go_wp2
        refine Met.intro ?_
        go_step
        refine meetG (by kernel_rfl) ?_
        exact ⟨⟨rfl, rfl, by rw [HI0.out]; rfl, rfl, rfl⟩, rfl⟩
      · have hx : ((T[0]'hT0).toNat : Int) = 43 := by
          have h1 : T = 43 :: (pre2 sh b (digs up) ++ txt (digs up) (rdDig sh b m)) := by rw [HT.out]; rfl
          exact head_is T 43 _ h1 hT0
        rw [← HAT.out 0 hX0 hT0] at hx
        go_wp2
        refine Met.intro ?_
        go_step
        refine meetG (by kernel_rfl) ?_
        exact ⟨⟨rfl, rfl, by rw [HI0.out]; rfl, rfl, rfl⟩, rfl⟩
    · have hx : ((T[0]'hT0).toNat : Int) = 45 := by
        have h1 : T = 45 :: (pre2 sh b (digs up) ++ txt (digs up) (rdDig sh b m)) := by rw [HT.out]; rfl
        exact head_is T 45 _ h1 hT0
      rw [← HAT.out 0 hX0 hT0] at hx
      go_wp2
      refine Met.intro ?_
      go_step
      refine meetG (by kernel_rfl) ?_
      exact ⟨⟨rfl, rfl, by rw [HI0.out]; rfl, rfl, by rw [Bool.not_true, Bool.and_false]; rfl⟩, rfl⟩
  case rest =>
  rintro _ wc ⟨g, ⟨⟨h13, h15, h16, h17, h18⟩, rfl⟩, rfl⟩
  rw [h13, h15, h16, h17, h18]
  clear h13 h15 h16 h17 h18
  go_upto_region 18 with (fail)
  refine wp_cut (fun a' w' => ∃ g : Nat → Value, ((g 13 = .string S ∧ g 15 = .string X ∧ g 16 = .int .i64 i0 ∧ g 17 = .bool neg ∧ g 18 = .bool (plus && !neg) ∧ g 78 = .bool (sh && decide (b = 2))) ∧ w2 = w') ∧ a' = ⟨#[.int .u64 u, .int .i64 b, .bool sg, .bool up, .bool plus, .bool sh, g 6, g 7, g 8, g 9, g 10, g 11, g 12, g 13, g 14, g 15, g 16, g 17, g 18, g 19, g 20, g 21, g 22, g 23, g 24, g 25, g 26, g 27, g 28, g 29, g 30, g 31, g 32, g 33, g 34, g 35, g 36, g 37, g 38, g 39, g 40, g 41, g 42, g 43, g 44, g 45, g 46, g 47, g 48, g 49, g 50, g 51, g 52, g 53, g 54, g 55, g 56, g 57, g 58, g 59, g 60, g 61, g 62, g 63, g 64, g 65, g 66, g 67, g 68, g 69, g 70, g 71, g 72, g 73, g 74, g 75, g 76, g 77, g 78, g 79, g 80, g 81, g 82, g 83, g 84, g 85, g 86, g 87, g 88, g 89, g 90, g 91, g 92, g 93, g 94, g 95, g 96, g 97, g 98, g 99, g 100, g 101, g 102, g 103, g 104, g 105, g 106, g 107, g 108, g 109, g 110, g 111, g 112, g 113, g 114, g 115, g 116, g 117, g 118, g 119, g 120, g 121, g 122, g 123, g 124, g 125, g 126, g 127, g 128, g 129, g 130, g 131, g 132, g 133, g 134, g 135, g 136, g 137, g 138, g 139, g 140, g 141, g 142, g 143, g 144, g 145, g 146, g 147, g 148, g 149, g 150, g 151, g 152, g 153, g 154, g 155, g 156, g 157, g 158, g 159, g 160, g 161, g 162, g 163, g 164, g 165, g 166, g 167, g 168, g 169, g 170, g 171, g 172, g 173, g 174, g 175, g 176, g 177, g 178, g 179, g 180, g 181, g 182, g 183, g 184, g 185, g 186, g 187, g 188, g 189, g 190, g 191, g 192, g 193, g 194, g 195, g 196, g 197, g 198, g 199, g 200, g 201, g 202, g 203, g 204, g 205, g 206, g 207, g 208], []⟩) ?rest ?first
  case first =>
    intro _ _ _ _
    cases sh
    · go_wp2
      refine Met.intro ?_
      go_step
      refine meetG (by kernel_rfl) ?_
      exact ⟨⟨rfl, rfl, rfl, rfl, rfl, rfl⟩, rfl⟩
    · by_cases hbn : b = 2
      · have e : ((b : Int) == 2) = true := by simp; omega
        have HBN := Lib.hid hbn
        clear hb hbn
        go_wp2
        refine Met.intro ?_
        go_step
        refine meetG (by kernel_rfl) ?_
        exact ⟨⟨rfl, rfl, rfl, rfl, rfl, by rw [decide_eq_true HBN.out]; rfl⟩, rfl⟩
      · have e : ((b : Int) == 2) = false := by simp; omega
        have HBN := Lib.hid hbn
        clear hb hbn
        go_wp2
        refine Met.intro ?_
        go_step
        refine meetG (by kernel_rfl) ?_
        exact ⟨⟨rfl, rfl, rfl, rfl, rfl, by rw [decide_eq_false HBN.out]; rfl⟩, rfl⟩
  case rest =>
  rintro _ wc ⟨g, ⟨⟨h13, h15, h16, h17, h18, hc⟩, rfl⟩, rfl⟩
  rw [h13, h15, h16, h17, h18, hc]
  clear h13 h15 h16 h17 h18 hc
  obtain ⟨i1, hi1⟩ : ∃ i2, i2 = i0 + (if sh = true ∧ b = 2 then 2 else 0) := ⟨_, rfl⟩
  have HI1 := Lib.hid hi1
  clear hi1
  go_upto_if 78 with (fail)
  refine wp_cut (fun a' w' => ∃ g : Nat → Value, ((g 13 = .string S ∧ g 15 = .string X ∧ g 16 = .int .i64 i1 ∧ g 17 = .bool neg ∧ g 18 = .bool (plus && !neg)) ∧ Below w2.heap.size w2 w') ∧ a' = ⟨#[.int .u64 u, .int .i64 b, .bool sg, .bool up, .bool plus, .bool sh, g 6, g 7, g 8, g 9, g 10, g 11, g 12, g 13, g 14, g 15, g 16, g 17, g 18, g 19, g 20, g 21, g 22, g 23, g 24, g 25, g 26, g 27, g 28, g 29, g 30, g 31, g 32, g 33, g 34, g 35, g 36, g 37, g 38, g 39, g 40, g 41, g 42, g 43, g 44, g 45, g 46, g 47, g 48, g 49, g 50, g 51, g 52, g 53, g 54, g 55, g 56, g 57, g 58, g 59, g 60, g 61, g 62, g 63, g 64, g 65, g 66, g 67, g 68, g 69, g 70, g 71, g 72, g 73, g 74, g 75, g 76, g 77, g 78, g 79, g 80, g 81, g 82, g 83, g 84, g 85, g 86, g 87, g 88, g 89, g 90, g 91, g 92, g 93, g 94, g 95, g 96, g 97, g 98, g 99, g 100, g 101, g 102, g 103, g 104, g 105, g 106, g 107, g 108, g 109, g 110, g 111, g 112, g 113, g 114, g 115, g 116, g 117, g 118, g 119, g 120, g 121, g 122, g 123, g 124, g 125, g 126, g 127, g 128, g 129, g 130, g 131, g 132, g 133, g 134, g 135, g 136, g 137, g 138, g 139, g 140, g 141, g 142, g 143, g 144, g 145, g 146, g 147, g 148, g 149, g 150, g 151, g 152, g 153, g 154, g 155, g 156, g 157, g 158, g 159, g 160, g 161, g 162, g 163, g 164, g 165, g 166, g 167, g 168, g 169, g 170, g 171, g 172, g 173, g 174, g 175, g 176, g 177, g 178, g 179, g 180, g 181, g 182, g 183, g 184, g 185, g 186, g 187, g 188, g 189, g 190, g 191, g 192, g 193, g 194, g 195, g 196, g 197, g 198, g 199, g 200, g 201, g 202, g 203, g 204, g 205, g 206, g 207, g 208], []⟩) ?rest ?first
  case first =>
    intro _ _ _ _
    by_cases hsb : sh = true ∧ b = 2
    · obtain ⟨hs1, hs2⟩ := hsb
      subst hs1
      have HB2' := Lib.hid hs2
      have hlen : (pre2 true b (digs up)).length = 2 := by rw [hs2]; rfl
      have hi1 : i0 + 1 < T.length := by have := HTL.out; have := HI0.out; have := rdDig_ne true b m; omega
      have hi0 : i0 < T.length := by omega
      have hx1 : i0 < X.size := by rw [HXS.out]; exact hi0
      have hx2 : i0 + 1 < X.size := by rw [HXS.out]; exact hi1
      have hx3 : (i0 : Int) + 2 ≤ (X.size : Int) := by omega
      have hx4 : (i0 : Int) < (X.size : Int) := by omega
      have hx5 : (i0 : Int) + 1 < (X.size : Int) := by omega
      have hx6 : (0 : Int) ≤ (i0 : Int) := by omega
      have hx7 : (i0 : Int) + 2 ≤ 1000 := by have := HTL.out; have := HI0.out; have h64 := rt_len neg plus true b up m (by omega) M64.out; omega
      have hq := pre_at neg plus true b up m T HT.out i0 (by exact HI0.out) hi0 hi1 (by rw [hs2]; exact .inl ⟨rfl, rfl⟩)
      rw [← HAT.out i0 hx1 hi0, ← HAT.out (i0 + 1) hx2 hi1] at hq
      obtain ⟨hq1, hq2⟩ := hq
      rw [if_pos hs2] at hq2
      have hd : decide (b = 2) = true := decide_eq_true hs2
      rw [hd]
      
      clear hb hi1 hi0 hd hs2
      go_wp2
      refine Met.intro ?_
      go_step
      refine meetG (by kernel_rfl) ?_
      exact ⟨⟨rfl, rfl, by rw [HI1.out, if_pos (by simp [HB2'.out])]; rfl, rfl, rfl⟩, Below.refl _ _⟩
    · have hd : (sh && decide (b = 2)) = false := by
        cases sh
        · rfl
        · simp; intro e; exact hsb ⟨rfl, e⟩
      rw [hd]
      have HSB := Lib.hid hsb
      clear hsb hb
      go_wp2
      refine Met.intro ?_
      go_step
      refine meetG (by kernel_rfl) ?_
      exact ⟨⟨rfl, rfl, by rw [HI1.out, if_neg HSB.out]; rfl, rfl, rfl⟩, Below.refl _ _⟩
  case rest =>
  rintro _ wd ⟨g, ⟨⟨h13, h15, h16, h17, h18⟩, hbd⟩, rfl⟩
  rw [h13, h15, h16, h17, h18]
  clear h13 h15 h16 h17 h18
  go_upto_region 22 with (fail)
  refine wp_cut (fun a' w' => ∃ g : Nat → Value, ((g 13 = .string S ∧ g 15 = .string X ∧ g 16 = .int .i64 i1 ∧ g 17 = .bool neg ∧ g 18 = .bool (plus && !neg) ∧ g 103 = .bool (sh && decide (b = 16))) ∧ wd = w') ∧ a' = ⟨#[.int .u64 u, .int .i64 b, .bool sg, .bool up, .bool plus, .bool sh, g 6, g 7, g 8, g 9, g 10, g 11, g 12, g 13, g 14, g 15, g 16, g 17, g 18, g 19, g 20, g 21, g 22, g 23, g 24, g 25, g 26, g 27, g 28, g 29, g 30, g 31, g 32, g 33, g 34, g 35, g 36, g 37, g 38, g 39, g 40, g 41, g 42, g 43, g 44, g 45, g 46, g 47, g 48, g 49, g 50, g 51, g 52, g 53, g 54, g 55, g 56, g 57, g 58, g 59, g 60, g 61, g 62, g 63, g 64, g 65, g 66, g 67, g 68, g 69, g 70, g 71, g 72, g 73, g 74, g 75, g 76, g 77, g 78, g 79, g 80, g 81, g 82, g 83, g 84, g 85, g 86, g 87, g 88, g 89, g 90, g 91, g 92, g 93, g 94, g 95, g 96, g 97, g 98, g 99, g 100, g 101, g 102, g 103, g 104, g 105, g 106, g 107, g 108, g 109, g 110, g 111, g 112, g 113, g 114, g 115, g 116, g 117, g 118, g 119, g 120, g 121, g 122, g 123, g 124, g 125, g 126, g 127, g 128, g 129, g 130, g 131, g 132, g 133, g 134, g 135, g 136, g 137, g 138, g 139, g 140, g 141, g 142, g 143, g 144, g 145, g 146, g 147, g 148, g 149, g 150, g 151, g 152, g 153, g 154, g 155, g 156, g 157, g 158, g 159, g 160, g 161, g 162, g 163, g 164, g 165, g 166, g 167, g 168, g 169, g 170, g 171, g 172, g 173, g 174, g 175, g 176, g 177, g 178, g 179, g 180, g 181, g 182, g 183, g 184, g 185, g 186, g 187, g 188, g 189, g 190, g 191, g 192, g 193, g 194, g 195, g 196, g 197, g 198, g 199, g 200, g 201, g 202, g 203, g 204, g 205, g 206, g 207, g 208], []⟩) ?rest ?first
  case first =>
    intro _ _ _ _
    cases sh
    · go_wp2
      refine Met.intro ?_
      go_step
      refine meetG (by kernel_rfl) ?_
      exact ⟨⟨rfl, rfl, rfl, rfl, rfl, rfl⟩, rfl⟩
    · by_cases hbn : b = 16
      · have e : ((b : Int) == 16) = true := by simp; omega
        have HBN := Lib.hid hbn
        clear hb hbn
        go_wp2
        refine Met.intro ?_
        go_step
        refine meetG (by kernel_rfl) ?_
        exact ⟨⟨rfl, rfl, rfl, rfl, rfl, by rw [decide_eq_true HBN.out]; rfl⟩, rfl⟩
      · have e : ((b : Int) == 16) = false := by simp; omega
        have HBN := Lib.hid hbn
        clear hb hbn
        go_wp2
        refine Met.intro ?_
        go_step
        refine meetG (by kernel_rfl) ?_
        exact ⟨⟨rfl, rfl, rfl, rfl, rfl, by rw [decide_eq_false HBN.out]; rfl⟩, rfl⟩
  case rest =>
  rintro _ wc ⟨g, ⟨⟨h13, h15, h16, h17, h18, hc⟩, rfl⟩, rfl⟩
  rw [h13, h15, h16, h17, h18, hc]
  clear h13 h15 h16 h17 h18 hc
  obtain ⟨s0, hs0⟩ : ∃ i2, i2 = i1 + (if sh = true ∧ b = 16 then 2 else 0) := ⟨_, rfl⟩
  have HS0 := Lib.hid hs0
  clear hs0
  go_upto_if 103 with (fail)
  refine wp_cut (fun a' w' => ∃ g : Nat → Value, ((g 13 = .string S ∧ g 15 = .string X ∧ g 16 = .int .i64 s0 ∧ g 17 = .bool neg ∧ g 18 = .bool (plus && !neg)) ∧ Below wd.heap.size wd w') ∧ a' = ⟨#[.int .u64 u, .int .i64 b, .bool sg, .bool up, .bool plus, .bool sh, g 6, g 7, g 8, g 9, g 10, g 11, g 12, g 13, g 14, g 15, g 16, g 17, g 18, g 19, g 20, g 21, g 22, g 23, g 24, g 25, g 26, g 27, g 28, g 29, g 30, g 31, g 32, g 33, g 34, g 35, g 36, g 37, g 38, g 39, g 40, g 41, g 42, g 43, g 44, g 45, g 46, g 47, g 48, g 49, g 50, g 51, g 52, g 53, g 54, g 55, g 56, g 57, g 58, g 59, g 60, g 61, g 62, g 63, g 64, g 65, g 66, g 67, g 68, g 69, g 70, g 71, g 72, g 73, g 74, g 75, g 76, g 77, g 78, g 79, g 80, g 81, g 82, g 83, g 84, g 85, g 86, g 87, g 88, g 89, g 90, g 91, g 92, g 93, g 94, g 95, g 96, g 97, g 98, g 99, g 100, g 101, g 102, g 103, g 104, g 105, g 106, g 107, g 108, g 109, g 110, g 111, g 112, g 113, g 114, g 115, g 116, g 117, g 118, g 119, g 120, g 121, g 122, g 123, g 124, g 125, g 126, g 127, g 128, g 129, g 130, g 131, g 132, g 133, g 134, g 135, g 136, g 137, g 138, g 139, g 140, g 141, g 142, g 143, g 144, g 145, g 146, g 147, g 148, g 149, g 150, g 151, g 152, g 153, g 154, g 155, g 156, g 157, g 158, g 159, g 160, g 161, g 162, g 163, g 164, g 165, g 166, g 167, g 168, g 169, g 170, g 171, g 172, g 173, g 174, g 175, g 176, g 177, g 178, g 179, g 180, g 181, g 182, g 183, g 184, g 185, g 186, g 187, g 188, g 189, g 190, g 191, g 192, g 193, g 194, g 195, g 196, g 197, g 198, g 199, g 200, g 201, g 202, g 203, g 204, g 205, g 206, g 207, g 208], []⟩) ?rest ?first
  case first =>
    intro _ _ _ _
    by_cases hsb : sh = true ∧ b = 16
    · obtain ⟨hs1, hs2⟩ := hsb
      subst hs1
      have HB2' := Lib.hid hs2
      have hlen : (pre2 true b (digs up)).length = 2 := by rw [hs2]; rfl
      have hii : i1 = i0 := by rw [HI1.out, if_neg (by omega)]; omega
      have hI1 : i1 = (pre1 neg plus).length := by rw [hii, HI0.out]
      have hs0 : i1 + 1 < T.length := by have := HTL.out; have := rdDig_ne true b m; omega
      have hi1 : i1 < T.length := by omega
      have hx1 : i1 < X.size := by rw [HXS.out]; exact hi1
      have hx2 : i1 + 1 < X.size := by rw [HXS.out]; exact hs0
      have hx3 : (i1 : Int) + 2 ≤ (X.size : Int) := by omega
      have hx4 : (i1 : Int) < (X.size : Int) := by omega
      have hx5 : (i1 : Int) + 1 < (X.size : Int) := by omega
      have hx6 : (0 : Int) ≤ (i1 : Int) := by omega
      have hx7 : (i1 : Int) + 2 ≤ 1000 := by have := HTL.out; have h64 := rt_len neg plus true b up m (by omega) M64.out; omega
      have hq := pre_at neg plus true b up m T HT.out i1 hI1 hi1 hs0 (by rw [hs2]; exact .inr ⟨rfl, rfl⟩)
      rw [← HAT.out i1 hx1 hi1, ← HAT.out (i1 + 1) hx2 hs0] at hq
      obtain ⟨hq1, hq2⟩ := hq
      rw [if_neg (by omega)] at hq2
      have hd : decide (b = 16) = true := decide_eq_true hs2
      rw [hd]
      have h16N : 16 < S.size := by rw [HSZ.out]; decide
      have h16I : (16 : Int) < (S.size : Int) := by omega
      have hne : (((X[i1 + 1]'hx2).toNat : Int) != ((S[16]'h16N).toNat : Int)) = false := by
        rw [hq2, str_dig S up HSS.out 16 h16N]; simp
      have hw1 : IntKind.i64.wrap ((i1 : Int) + 2) = (i1 : Int) + 2 := IntWalk.i64_in _ (by omega)
      have hw2 : IntKind.i64.wrap ((i1 : Int) + 1) = (i1 : Int) + 1 := IntWalk.i64_in _ (by omega)
      have hw3 : decide ((X.size : Int) < (i1 : Int) + 2) = false := by simp; omega
      have hw4 : ((i1 : Int) + 1).toNat = i1 + 1 := by omega
      have hw5 : (0 : Int) ≤ (i1 : Int) + 1 := by omega
      have hq1' : (((X[i1]'hx1).toNat : Int) != 48) = false := by rw [hq1]; decide
      clear hb hs0 hi1 hd hs2 hq2 hii hI1 hlen hq1 hx3 hx7
      go_wp2
      go_quiet (fail)
      go_wp2
      refine Met.intro ?_
      go_step
      refine meetG (by kernel_rfl) ?_
      exact ⟨⟨rfl, rfl, by rw [HS0.out, if_pos (by simp [HB2'.out])]; rfl, rfl, rfl⟩, ⟨rfl, rfl, rfl, Nat.le_refl _, fun _ _ => rfl⟩⟩
    · have hd : (sh && decide (b = 16)) = false := by
        cases sh
        · rfl
        · simp; intro e; exact hsb ⟨rfl, e⟩
      rw [hd]
      have HSB := Lib.hid hsb
      clear hsb hb
      go_wp2
      refine Met.intro ?_
      go_step
      refine meetG (by kernel_rfl) ?_
      exact ⟨⟨rfl, rfl, by rw [HS0.out, if_neg HSB.out]; rfl, rfl, rfl⟩, Below.refl _ _⟩
  case rest =>
  rintro _ we ⟨g, ⟨⟨h13, h15, h16, h17, h18⟩, hbe⟩, rfl⟩
  rw [h13, h15, h16, h17, h18]
  clear h13 h15 h16 h17 h18
  obtain ⟨dl, hdl⟩ : ∃ dl, dl = rdDig sh b m := ⟨_, rfl⟩
  have HDL := Lib.hid hdl
  have hdn : 0 < dl.length := by rw [hdl]; exact rdDig_ne sh b m
  have HDV : Hid (val b dl = m) := Lib.hid (by rw [hdl]; exact rdDig_val sh (by omega))
  have HDT : Hid (∀ d ∈ dl, d < b) := Lib.hid (by rw [hdl]; exact rdDig_lt sh (by omega))
  have hsl : s0 + dl.length = T.length ∧ s0 ≤ 3 := by
    have h1 := HTL.out
    have h2 := HS0.out
    have h3 := HI1.out
    have h4 := HI0.out
    rw [h1, hdl, h2, h3, h4]
    have h5 : (pre1 neg plus).length ≤ 1 := by cases neg <;> cases plus <;> decide
    unfold pre2
    by_cases h2 : sh = true ∧ b = 2
    · rw [if_pos h2, if_pos h2, if_neg (by omega)]; simp; omega
    · rw [if_neg h2, if_neg h2]
      by_cases h3 : sh = true ∧ b = 16
      · rw [if_pos h3, if_pos h3]; simp; omega
      · rw [if_neg h3, if_neg h3]; simp; omega
  have hdlen : dl.length ≤ 65 := by
    rw [hdl]; unfold rdDig
    have := dig_length (b := b) (by omega) 63 m M64.out
    split
    · simp; omega
    · omega
  have HXD : Hid (∀ j (h : j < dl.length) (h' : s0 + j < X.size), X[s0 + j]'h' = (digs up).getD dl[j] 0) := Lib.hid (fun j h h' => by
    have h1 : s0 + j < T.length := by omega
    rw [HAT.out _ h' h1]
    have hT := HT.out
    rw [← hdl] at hT
    rw [← List.append_assoc] at hT
    exact at_tail _ (digs up) dl T hT s0 (by have h2 := congrArg List.length hT; rw [List.length_append, txt_length] at h2; omega) j h h1)
  clear hdl
  have hb2 : 2 ≤ b := by omega
  have hb16 : b ≤ 16 := by omega
  have hXsz : (X.size : Int) = (s0 : Int) + (dl.length : Int) := by rw [HXS.out]; omega
  have hss : decide (X.size ≤ s0) = false := by simp; omega
  have hXn : X.size = s0 + dl.length := by omega
  have HXN := Lib.hid hXn
  have HXI := Lib.hid hXsz
  have hXb : X.size ≤ 100 := by omega
  obtain ⟨hsl1, hsl2⟩ := hsl
  have HSL1 := Lib.hid hsl1
  clear hXn hXsz hsl1 hX0' hT0 hX0
  go_wp2_with (fail)
  refine wp_loop (fun a' w' => ∃ g : Nat → Value, ((g 13 = .string S ∧ g 15 = .string X ∧ g 17 = .bool neg ∧ g 18 = .bool (plus && !neg) ∧ g 19 = .int .i64 s0 ∧ g 20 = .int .u64 b) ∧ ∃ j V : Nat, g 16 = .int .i64 ((s0 : Int) + (j : Int)) ∧ g 21 = .int .u64 V ∧ j ≤ dl.length ∧ Hid (V = val b (dl.take j)) ∧ we = w') ∧ a' = ⟨#[.int .u64 u, .int .i64 b, .bool sg, .bool up, .bool plus, .bool sh, g 6, g 7, g 8, g 9, g 10, g 11, g 12, g 13, g 14, g 15, g 16, g 17, g 18, g 19, g 20, g 21, g 22, g 23, g 24, g 25, g 26, g 27, g 28, g 29, g 30, g 31, g 32, g 33, g 34, g 35, g 36, g 37, g 38, g 39, g 40, g 41, g 42, g 43, g 44, g 45, g 46, g 47, g 48, g 49, g 50, g 51, g 52, g 53, g 54, g 55, g 56, g 57, g 58, g 59, g 60, g 61, g 62, g 63, g 64, g 65, g 66, g 67, g 68, g 69, g 70, g 71, g 72, g 73, g 74, g 75, g 76, g 77, g 78, g 79, g 80, g 81, g 82, g 83, g 84, g 85, g 86, g 87, g 88, g 89, g 90, g 91, g 92, g 93, g 94, g 95, g 96, g 97, g 98, g 99, g 100, g 101, g 102, g 103, g 104, g 105, g 106, g 107, g 108, g 109, g 110, g 111, g 112, g 113, g 114, g 115, g 116, g 117, g 118, g 119, g 120, g 121, g 122, g 123, g 124, g 125, g 126, g 127, g 128, g 129, g 130, g 131, g 132, g 133, g 134, g 135, g 136, g 137, g 138, g 139, g 140, g 141, g 142, g 143, g 144, g 145, g 146, g 147, g 148, g 149, g 150, g 151, g 152, g 153, g 154, g 155, g 156, g 157, g 158, g 159, g 160, g 161, g 162, g 163, g 164, g 165, g 166, g 167, g 168, g 169, g 170, g 171, g 172, g 173, g 174, g 175, g 176, g 177, g 178, g 179, g 180, g 181, g 182, g 183, g 184, g 185, g 186, g 187, g 188, g 189, g 190, g 191, g 192, g 193, g 194, g 195, g 196, g 197, g 198, g 199, g 200, g 201, g 202, g 203, g 204, g 205, g 206, g 207, g 208], []⟩) (fun a' _ => X.size - (intOf (a'.tmps.getD 16 undef)).toNat) ?start ?round
  case start =>
    refine meetG (by kernel_rfl) ?_
    exact ⟨⟨rfl, rfl, rfl, rfl, rfl, rfl⟩, 0, 0, by rw [Int.natCast_zero, Int.add_zero]; rfl, rfl, Nat.zero_le _, Lib.hid rfl, rfl⟩
  case round =>
    rintro _ wr ⟨g, ⟨⟨h13, h15, h17, h18, h19, h20⟩, j, V, h16, h21, hj, HV, rfl⟩, rfl⟩
    rw [h13, h15, h16, h17, h18, h19, h20, h21]
    clear h13 h15 h16 h17 h18 h19 h20 h21
    by_cases hlt : j < dl.length
    · have hjx : s0 + j < X.size := by rw [HXN.out]; omega
      have hx1 : (s0 : Int) + (j : Int) < (X.size : Int) := by rw [HXI.out]; omega
      have hx2 : (0 : Int) ≤ (s0 : Int) + (j : Int) := by omega
      have hx3 : ((s0 : Int) + (j : Int)).toNat = s0 + j := by omega
      have hD := HDT.out dl[j] (List.getElem_mem _)
      have HDC : Hid (Calls Tryd.prog 10 #[.int .u8 (((X[s0 + j]'hjx).toNat : Nat) : Int), .string S] we fun e w' => e = .returned (.int .i64 (dl[j] : Nat)) ∧ we = w') := Lib.hid (by
        rw [HXD.out j hlt hjx]
        exact digitVal dl[j] up S we (by omega) HSS.out)
      have hVn : val b (dl.take (j + 1)) = V * b + dl[j] := by
        rw [List.take_succ_eq_append_getElem hlt, val_snoc, ← HV.out]
      have hVm : V * b + dl[j] ≤ m := by
        rw [← hVn, ← HDV.out]
        have := val_le (b := b) (by omega) (dl.drop (j + 1)) (dl.take (j + 1))
        rwa [List.take_append_drop] at this
      have HVN := Lib.hid hVn
      obtain ⟨D, hDD⟩ : ∃ D, D = dl[j] := ⟨_, rfl⟩
      rw [← hDD] at hD HDC hVm HVN
      obtain ⟨M, hM⟩ : ∃ M, M = V * b := ⟨_, rfl⟩
      rw [← hM] at hVm HVN
      have hm64 := M64.out
      have hMM : (V : Int) * (b : Int) = (M : Int) := by rw [hM]; simp
      have hDb : decide (b ≤ D) = false := by simp; omega
      have hq : decide ((18446744073709551615 - (D : Int)) / (b : Int) < (V : Int)) = false := by
        simp only [decide_eq_false_iff_not, Int.not_lt]
        rw [Int.le_ediv_iff_mul_le (by omega), hMM]
        omega
      have hM64 : M + D ≤ 18446744073709551615 := by omega
      clear hVn hVm hDD hM hm64
      go_wp2_with (fail)
      refine HDC.out.mono ?_
      rintro e w' ⟨rfl, rfl⟩
      go_wp2
      refine ⟨meetG (by kernel_rfl) ?_, ?_⟩
      · exact ⟨⟨rfl, rfl, rfl, rfl, rfl, rfl⟩, j + 1, M + D, by rw [show ((j + 1 : Nat) : Int) = (j : Int) + 1 by omega, ← Int.add_assoc]; rfl, by rw [show ((M + D : Nat) : Int) = (M : Int) + (D : Int) by omega]; rfl, hlt, Lib.hid HVN.out.symm, trivial⟩
      · simp [intOf]; omega
    · obtain rfl : j = dl.length := by omega
      have hVm : V = m := by rw [HV.out, List.take_length, HDV.out]
      subst hVm
      have hx1 : decide ((s0 : Int) + (dl.length : Int) < (X.size : Int)) = false := by rw [HXI.out]; simp
      have hX0 : s0 < X.size := by rw [HXN.out]; omega
      have hX0' : (s0 : Int) < (X.size : Int) := by rw [HXI.out]; omega
      have hs00 : (0 : Int) ≤ (s0 : Int) := by omega
      have HX0 : Hid (X[s0]'hX0 = (digs up).getD (dl[0]'hdn) 0) := Lib.hid (by have := HXD.out 0 hdn (by simpa using hX0); simpa using this)
      go_upto_region 39 with (fail)
      refine wp_cut (fun a' w' => ∃ g : Nat → Value, ((g 15 = .string X ∧ g 17 = .bool neg ∧ g 18 = .bool (plus && !neg) ∧ g 19 = .int .i64 s0 ∧ g 21 = .int .u64 V ∧ g 169 = .bool (sh && decide (b = 8))) ∧ we = w') ∧ a' = ⟨#[.int .u64 u, .int .i64 b, .bool sg, .bool up, .bool plus, .bool sh, g 6, g 7, g 8, g 9, g 10, g 11, g 12, g 13, g 14, g 15, g 16, g 17, g 18, g 19, g 20, g 21, g 22, g 23, g 24, g 25, g 26, g 27, g 28, g 29, g 30, g 31, g 32, g 33, g 34, g 35, g 36, g 37, g 38, g 39, g 40, g 41, g 42, g 43, g 44, g 45, g 46, g 47, g 48, g 49, g 50, g 51, g 52, g 53, g 54, g 55, g 56, g 57, g 58, g 59, g 60, g 61, g 62, g 63, g 64, g 65, g 66, g 67, g 68, g 69, g 70, g 71, g 72, g 73, g 74, g 75, g 76, g 77, g 78, g 79, g 80, g 81, g 82, g 83, g 84, g 85, g 86, g 87, g 88, g 89, g 90, g 91, g 92, g 93, g 94, g 95, g 96, g 97, g 98, g 99, g 100, g 101, g 102, g 103, g 104, g 105, g 106, g 107, g 108, g 109, g 110, g 111, g 112, g 113, g 114, g 115, g 116, g 117, g 118, g 119, g 120, g 121, g 122, g 123, g 124, g 125, g 126, g 127, g 128, g 129, g 130, g 131, g 132, g 133, g 134, g 135, g 136, g 137, g 138, g 139, g 140, g 141, g 142, g 143, g 144, g 145, g 146, g 147, g 148, g 149, g 150, g 151, g 152, g 153, g 154, g 155, g 156, g 157, g 158, g 159, g 160, g 161, g 162, g 163, g 164, g 165, g 166, g 167, g 168, g 169, g 170, g 171, g 172, g 173, g 174, g 175, g 176, g 177, g 178, g 179, g 180, g 181, g 182, g 183, g 184, g 185, g 186, g 187, g 188, g 189, g 190, g 191, g 192, g 193, g 194, g 195, g 196, g 197, g 198, g 199, g 200, g 201, g 202, g 203, g 204, g 205, g 206, g 207, g 208], []⟩) ?rest ?first
      case first =>
        intro _ _ _ _
        clear hx1
        cases sh
        · go_wp2
          refine Met.intro ?_
          go_step
          refine meetG (by kernel_rfl) ?_
          exact ⟨⟨rfl, rfl, rfl, rfl, rfl, rfl⟩, rfl⟩
        · by_cases hbn : b = 8
          · have e : ((b : Int) == 8) = true := by simp; omega
            have HBN := Lib.hid hbn
            clear hb hbn
            go_wp2
            refine Met.intro ?_
            go_step
            refine meetG (by kernel_rfl) ?_
            exact ⟨⟨rfl, rfl, rfl, rfl, rfl, by rw [decide_eq_true HBN.out]; rfl⟩, rfl⟩
          · have e : ((b : Int) == 8) = false := by simp; omega
            have HBN := Lib.hid hbn
            clear hb hbn
            go_wp2
            refine Met.intro ?_
            go_step
            refine meetG (by kernel_rfl) ?_
            exact ⟨⟨rfl, rfl, rfl, rfl, rfl, by rw [decide_eq_false HBN.out]; rfl⟩, rfl⟩
      case rest =>
      rintro _ wc ⟨g, ⟨⟨h15, h17, h18, h19, h21, hc⟩, rfl⟩, rfl⟩
      rw [h15, h17, h18, h19, h21, hc]
      clear h15 h17 h18 h19 h21 hc hx1
      go_upto_if 169 with (fail)
      refine wp_cut (fun a' w' => ∃ g : Nat → Value, ((g 15 = .string X ∧ g 17 = .bool neg ∧ g 18 = .bool (plus && !neg) ∧ g 19 = .int .i64 s0 ∧ g 21 = .int .u64 V) ∧ we = w') ∧ a' = ⟨#[.int .u64 u, .int .i64 b, .bool sg, .bool up, .bool plus, .bool sh, g 6, g 7, g 8, g 9, g 10, g 11, g 12, g 13, g 14, g 15, g 16, g 17, g 18, g 19, g 20, g 21, g 22, g 23, g 24, g 25, g 26, g 27, g 28, g 29, g 30, g 31, g 32, g 33, g 34, g 35, g 36, g 37, g 38, g 39, g 40, g 41, g 42, g 43, g 44, g 45, g 46, g 47, g 48, g 49, g 50, g 51, g 52, g 53, g 54, g 55, g 56, g 57, g 58, g 59, g 60, g 61, g 62, g 63, g 64, g 65, g 66, g 67, g 68, g 69, g 70, g 71, g 72, g 73, g 74, g 75, g 76, g 77, g 78, g 79, g 80, g 81, g 82, g 83, g 84, g 85, g 86, g 87, g 88, g 89, g 90, g 91, g 92, g 93, g 94, g 95, g 96, g 97, g 98, g 99, g 100, g 101, g 102, g 103, g 104, g 105, g 106, g 107, g 108, g 109, g 110, g 111, g 112, g 113, g 114, g 115, g 116, g 117, g 118, g 119, g 120, g 121, g 122, g 123, g 124, g 125, g 126, g 127, g 128, g 129, g 130, g 131, g 132, g 133, g 134, g 135, g 136, g 137, g 138, g 139, g 140, g 141, g 142, g 143, g 144, g 145, g 146, g 147, g 148, g 149, g 150, g 151, g 152, g 153, g 154, g 155, g 156, g 157, g 158, g 159, g 160, g 161, g 162, g 163, g 164, g 165, g 166, g 167, g 168, g 169, g 170, g 171, g 172, g 173, g 174, g 175, g 176, g 177, g 178, g 179, g 180, g 181, g 182, g 183, g 184, g 185, g 186, g 187, g 188, g 189, g 190, g 191, g 192, g 193, g 194, g 195, g 196, g 197, g 198, g 199, g 200, g 201, g 202, g 203, g 204, g 205, g 206, g 207, g 208], []⟩) ?rest ?first
      case first =>
        intro _ _ _ _
        by_cases hsb : sh = true ∧ b = 8
        · obtain ⟨hs1, hs2⟩ := hsb
          have hd : (sh && decide (b = 8)) = true := by rw [hs1, hs2]; rfl
          have h0 : dl[0]'hdn = 0 := by
            have h := rdDig_head8 (m := V) hs2
            rw [← hs1, ← HDL.out] at h
            rw [head_get dl hdn] at h
            exact Option.some.inj h
          have hc : (((X[s0]'hX0).toNat : Nat) : Int) = 48 := by
            rw [HX0.out, h0, (digs_zero up 0 (by decide)).2 rfl]; rfl
          rw [hd]
          clear hd hs1 hs2 h0 hb
          go_wp2
          refine Met.intro ?_
          go_step
          refine meetG (by kernel_rfl) ?_
          exact ⟨⟨rfl, rfl, rfl, rfl, rfl⟩, rfl⟩
        · have hd : (sh && decide (b = 8)) = false := by
            cases sh
            · rfl
            · simp; intro e; exact hsb ⟨rfl, e⟩
          rw [hd]
          have hh := rdDig_headN (m := V) hb2 hsb
          rw [← HDL.out] at hh
          clear hd hsb hb
          rcases hh with hh | hh
          · have hne : dl[0]'hdn ≠ 0 := by
              intro h0
              apply hh
              rw [head_get dl hdn, h0]
            have hc : ((((X[s0]'hX0).toNat : Nat) : Int) == 48) = false := by
              rw [HX0.out]
              have hd16 := HDT.out _ (List.getElem_mem hdn)
              have := mt (digs_zero up _ (by omega)).1 hne
              simp only [beq_eq_false_iff_ne]
              intro e
              exact this (UInt8.toNat_inj.1 (by have h48 : ((48 : UInt8).toNat) = 48 := rfl; omega))
            clear hh hne
            go_wp2
            refine Met.intro ?_
            go_step
            refine meetG (by kernel_rfl) ?_
            exact ⟨⟨rfl, rfl, rfl, rfl, rfl⟩, rfl⟩
          · have hl1 : (X.size : Int) - (s0 : Int) = 1 := by rw [HXI.out, hh]; omega
            clear hh
            by_cases hc : (((X[s0]'hX0).toNat : Nat) : Int) = 48
            · go_wp2
              refine Met.intro ?_
              go_step
              refine meetG (by kernel_rfl) ?_
              exact ⟨⟨rfl, rfl, rfl, rfl, rfl⟩, rfl⟩
            · have hc' : ((((X[s0]'hX0).toNat : Nat) : Int) == 48) = false := by simpa using hc
              clear hc
              go_wp2
              refine Met.intro ?_
              go_step
              refine meetG (by kernel_rfl) ?_
              exact ⟨⟨rfl, rfl, rfl, rfl, rfl⟩, rfl⟩
      case rest =>
      rintro _ wc ⟨g, ⟨⟨h15, h17, h18, h19, h21⟩, rfl⟩, rfl⟩
      rw [h15, h17, h18, h19, h21]
      clear h15 h17 h18 h19 h21
      have HFIN : Hid (Below w.heap.size w we) := Lib.hid (HB2.out.trans ((hbd.trans (hbe.mono hbd.size)).mono HB2.out.size))
      have hn := HN.out
      rcases hn with ⟨rfl, rfl, hu⟩ | ⟨rfl, rfl, hu, hl⟩ | ⟨rfl, rfl, hu, hl, hl2⟩
      · have hpp : (plus && !false) = plus := by simp
        rw [hpp]
        subst hu
        cases plus
        all_goals
          go_wp2
          go_ret
          exact ⟨rfl, HFIN.out⟩
      · have hpp : (plus && !false) = plus := by simp
        rw [hpp]
        subst hu
        have hw : IntKind.i64.wrap (V : Int) = V := IntWalk.i64_in _ (by omega)
        have hd : decide ((V : Int) < 0) = false := by simp
        cases plus
        all_goals
          go_wp2
          go_ret
          exact ⟨rfl, HFIN.out⟩
      · have hpp : (plus && !true) = false := by simp
        rw [hpp]
        have hw := i64_hi u (by omega) hu1
        have hd : decide (u - 18446744073709551616 < 0) = true := by simp; omega
        have hz : IntKind.u64.wrap (0 - (V : Int)) = u := by rw [hu]; exact u64_sub V hl hl2
        have hz2 : IntKind.u64.wrap (-(V : Int)) = u := by rw [← hz, Int.zero_sub]
        clear hu
        cases plus
        all_goals
          go_wp2
          go_ret
          exact ⟨by simp, HFIN.out⟩
end Go.Proofs.YtfpjkkjhdblmkaaDoor.Fm
namespace Go.Proofs.YtfpjkkjhdblmkaaDoor.Fm
open Go.ChangeShapes Go.WideShapes Go.ChangeAt Go.RowKit Go.Fmt Go.Num
set_option maxRecDepth 100000 in
set_option maxHeartbeats 1000000 in
theorem rtLaw (u bb : Int) (sg up plus sh : Bool) (w : World) (hg1 : w.cell? ⟨0, 0, none⟩ = some (.int .i64 2147483647)) (hu0 : 0 ≤ u) (hu1 : u ≤ 18446744073709551615) :
    Calls Tryd.prog 3 #[.int .u64 u, .int .i64 bb, .bool sg, .bool up, .bool plus, .bool sh] w fun e w' => e = .returned (.bool true) ∧ Below w.heap.size w w' := by
  by_cases hb : bb = 2 ∨ bb = 8 ∨ bb = 10 ∨ bb = 16
  · obtain ⟨neg, m, hm⟩ := mag_ex u sg hu0 hu1
    obtain ⟨b, rfl⟩ := Int.eq_ofNat_of_zero_le (show 0 ≤ bb by omega)
    exact rtMain u b sg up plus sh neg m w (by omega) hg1 hu0 hu1 hm
  · have e1 : (bb != 2) = true := by simp; omega
    have e2 : (bb != 8) = true := by simp; omega
    have e3 : (bb != 10) = true := by simp; omega
    have e4 : (bb != 16) = true := by simp; omega
    clear hb hg1
    go_enter Tryd.func3, Tryd.ntmps3
    go_wp2
    go_ret
    exact ⟨rfl, Below.refl _ _⟩
theorem u64_of_wf {a : Int} (h : (Lit.int .u64 a).wf = true) : 0 ≤ a ∧ a ≤ 18446744073709551615 := by
  simp [Lit.wf, IntKind.min, IntKind.max, IntKind.signed, IntKind.bits] at h
  omega
theorem maxl_in {laid : List (String × DataW Unit)} {w : World} (h : laidMet Tryd.prog laid w) (hm : ("github.com/d5/tengo/v2.MaxStringLen", .lit (.int .i64 2147483647)) ∈ laid) : w.cell? ⟨0, 0, none⟩ = some (.int .i64 2147483647) :=
  LawFrame.laid_int h hm (by kernel_rfl) (by kernel_rfl) Tryd.underlying3
end Go.Proofs.YtfpjkkjhdblmkaaDoor.Fm
namespace Go.Proofs.YtfpjkkjhdblmkaaDoor
open Fm
theorem fnIntegerRoundTrip.walk (a0 : Int) (a1 : Int) (a2 : Bool) (a3 : Bool) (a4 : Bool) (a5 : Bool) (w : World) (w0 : (Lit.int .u64 a0).wf = true) (_w1 : (Lit.int .i64 a1).wf = true) (hL : laidMetH Tryd.prog Rows.fnIntegerRoundTripRow.laid w) :
    Calls Tryd.prog 3 #[.int .u64 a0, .int .i64 a1, .bool a2, .bool a3, .bool a4, .bool a5] w fun e w' => e = .returned (.bool true) ∧ RowKit.Below w.heap.size w w' := by
  rw [MakeChecks.laidMetH_plain _ _ _ (by kernel_rfl)] at hL
  exact rtLaw a0 a1 a2 a3 a4 a5 w (maxl_in hL (by simp [Rows.fnIntegerRoundTripRow, Rows.laid_github_com_d5_tengo_v2_MaxStringLen])) (u64_of_wf w0).1 (u64_of_wf w0).2
end Go.Proofs.YtfpjkkjhdblmkaaDoor
