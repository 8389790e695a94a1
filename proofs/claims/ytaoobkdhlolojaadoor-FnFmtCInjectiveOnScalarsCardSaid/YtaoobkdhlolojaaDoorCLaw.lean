/- The laws on fmtC: their walks. -/
import Derived.Test.YtaoobkdhlolojaaDoorFmtC
import Derived.Test.YtaoobkdhlolojaaDoorZPad
import Derived.Test.YtaoobkdhlolojaaDoorUtf
import Derived.Test.YtaoobkdhlolojaaDoorFrame
import Derived.Outline
namespace Go.Proofs.YtaoobkdhlolojaaDoor.Fm
open Go.ChangeShapes Go.WideShapes Go.ChangeAt Go.RowKit Go.Fmt

theorem u64_mask (i m : Nat) (hm : m = 2 ^ i - 1) (hm64 : m < 18446744073709551616) (a : Int) (h0 : 0 ≤ a) (h1 : a < 18446744073709551616) : bits .and .u64 a (m : Int) = a % ((2 ^ i : Nat) : Int) := by
  rw [u64_and a m h0 h1 (by omega) (by omega)]
  obtain ⟨n, rfl⟩ := Int.eq_ofNat_of_zero_le h0
  simp only [Int.toNat_natCast]
  rw [hm, Nat.and_two_pow_sub_one_eq_mod]
  rfl
theorem u64_and63 (a : Int) (h0 : 0 ≤ a) (h1 : a < 18446744073709551616) : bits .and .u64 a 63 = a % 64 := u64_mask 6 63 rfl (by decide) a h0 h1
theorem u64_join (i c : Nat) (hc : c % 2 ^ i = 0) (hc2 : c < 18446744073709551616) (b : Int) (h0 : 0 ≤ b) (h1 : b < ((2 ^ i : Nat) : Int)) (h2 : b < 18446744073709551616) : bits .or .u64 (c : Int) b = c + b := by
  rw [u64_or c b (by omega) (by omega) h0 h2]
  obtain ⟨n, rfl⟩ := Int.eq_ofNat_of_zero_le h0
  simp only [Int.toNat_natCast]
  rw [nat_join i c n hc (by exact_mod_cast h1)]
  rfl
theorem u64_or192 (b : Int) (h0 : 0 ≤ b) (h1 : b < 64) : bits .or .u64 192 b = 192 + b := u64_join 6 192 rfl (by decide) b h0 (by simpa using h1) (by omega)
theorem u64_or128 (b : Int) (h0 : 0 ≤ b) (h1 : b < 64) : bits .or .u64 128 b = 128 + b := u64_join 6 128 rfl (by decide) b h0 (by simpa using h1) (by omega)
theorem u64_or224 (b : Int) (h0 : 0 ≤ b) (h1 : b < 32) : bits .or .u64 224 b = 224 + b := u64_join 5 224 rfl (by decide) b h0 (by simpa using h1) (by omega)
theorem u64_or240 (b : Int) (h0 : 0 ≤ b) (h1 : b < 16) : bits .or .u64 240 b = 240 + b := u64_join 4 240 rfl (by decide) b h0 (by simpa using h1) (by omega)

def validU (r : Int) : Bool := decide (r ≤ 1114111 ∧ ¬ (55296 ≤ r ∧ r ≤ 57343))

theorem validScalarU (r : Int) (w : World) (h0 : 0 ≤ r) : Calls Tryd.prog 14 #[.int .u64 r] w fun e w' => e = .returned (.bool (validU r)) ∧ w = w' := by
  have fin : ∀ {x y : Bool}, x = y → Ending.returned (.bool x) = .returned (.bool y) := fun h => by rw [h]
  rcases encI_cases r with h | h | h | h | h | h | h | h
  all_goals
    first | obtain ⟨h1, h2⟩ := h | have h1 := h
    go_enter Tryd.func14, Tryd.ntmps14
    go_wp2
    all_goals
      go_ret
      refine ⟨fin ?_, rfl⟩
      unfold validU
      rw [Bool.eq_iff_iff]
      simp
      omega

/-- A new block that holds the bytes. -/
def NewBytes (w : World) (bs : List UInt8) (e : Ending) (w' : World) : Prop :=
  ∃ arr : Array Value, arr.toList = bcells bs ∧ e = .returned (.slice (some ⟨w.heap.size, 0, none⟩) bs.length bs.length) ∧ w' = w.alloc (.cells arr 5)
theorem newBytes_ints {w : World} {bs : List UInt8} {e : Ending} {w' : World} (l : List Int) (hl : ∀ x ∈ l, 0 ≤ x ∧ x < 256) (hb : bs = l.map fun x => UInt8.ofNat x.toNat) (arr : Array Value) (harr : arr.toList = l.map (Value.int .u8))
    (n : Nat) (hn : n = l.length) (he : e = .returned (.slice (some ⟨w.heap.size, 0, none⟩) n n)) (hw : w' = w.alloc (.cells arr 5)) : NewBytes w bs e w' := by
  subst hb
  exact ⟨arr, by rw [bcells_of_ints l hl]; exact harr, by rw [he, hn]; simp, hw⟩

set_option maxHeartbeats 2000000 in
theorem zzUTF8 (c : Int) (w : World) (h0 : 0 ≤ c) (hc1 : c ≤ 18446744073709551615) : Calls Tryd.prog 13 #[.int .u64 c] w (NewBytes w (encB (runeOf c))) := by
  rcases encI_cases c with h | h | h | h | h | h | h | h
  · have hv : validU c = true := by unfold validU; rw [decide_eq_true_iff]; omega
    have hr : runeOf c = c := if_neg (by omega)
    rw [hr]
    obtain ⟨h1, h2⟩ := h
    clear hr
    go_enter Tryd.func13, Tryd.ntmps13
    go_wp2_with ((go_at_call 14; refine (validScalarU _ _ (by omega)).mono ?_; rintro e w' ⟨rfl, rfl⟩))
    go_ret
    exact newBytes_ints (encI c) (encI_byte c) rfl _ (by rw [encI_one h1 h2]; rfl) 1 (by rw [encI_one h1 h2]; rfl) rfl rfl
  · have hv : validU c = true := by unfold validU; rw [decide_eq_true_iff]; omega
    have hr : runeOf c = c := if_neg (by omega)
    rw [hr]
    obtain ⟨h1, h2⟩ := h
    clear hr
    go_enter Tryd.func13, Tryd.ntmps13
    go_wp2_with ((go_at_call 14; refine (validScalarU _ _ (by omega)).mono ?_; rintro e w' ⟨rfl, rfl⟩))
    go_ret
    refine newBytes_ints (encI c) (encI_byte c) rfl _ ?_ 2 (by rw [encI_two h1 h2]; rfl) rfl rfl
    rw [encI_two h1 h2, u64_and63 c (by omega) (by omega), u64_or192 _ (by omega) (by omega), u64_or128 _ (by omega) (by omega)]
    simp only [List.map_cons, List.map_nil, List.cons.injEq, Value.int.injEq, true_and, and_true]
    omega
  · have hv : validU c = true := by unfold validU; rw [decide_eq_true_iff]; omega
    have hr : runeOf c = c := if_neg (by omega)
    rw [hr]
    obtain ⟨h1, h2⟩ := h
    clear hr
    go_enter Tryd.func13, Tryd.ntmps13
    go_wp2_with ((go_at_call 14; refine (validScalarU _ _ (by omega)).mono ?_; rintro e w' ⟨rfl, rfl⟩))
    go_ret
    refine newBytes_ints (encI c) (encI_byte c) rfl _ ?_ 3 (by rw [encI_three (.inl ⟨h1, h2⟩)]; rfl) rfl rfl
    rw [encI_three (.inl ⟨h1, h2⟩), u64_and63 c (by omega) (by omega), u64_and63 (c / 64) (by omega) (by omega), u64_or224 _ (by omega) (by omega), u64_or128 _ (by omega) (by omega), u64_or128 _ (by omega) (by omega)]
    simp only [List.map_cons, List.map_nil, List.cons.injEq, Value.int.injEq, true_and, and_true]
    omega
  · have hv : validU c = true := by unfold validU; rw [decide_eq_true_iff]; omega
    have hr : runeOf c = c := if_neg (by omega)
    rw [hr]
    obtain ⟨h1, h2⟩ := h
    clear hr
    go_enter Tryd.func13, Tryd.ntmps13
    go_wp2_with ((go_at_call 14; refine (validScalarU _ _ (by omega)).mono ?_; rintro e w' ⟨rfl, rfl⟩))
    go_ret
    refine newBytes_ints (encI c) (encI_byte c) rfl _ ?_ 3 (by rw [encI_three (.inr ⟨h1, h2⟩)]; rfl) rfl rfl
    rw [encI_three (.inr ⟨h1, h2⟩), u64_and63 c (by omega) (by omega), u64_and63 (c / 64) (by omega) (by omega), u64_or224 _ (by omega) (by omega), u64_or128 _ (by omega) (by omega), u64_or128 _ (by omega) (by omega)]
    simp only [List.map_cons, List.map_nil, List.cons.injEq, Value.int.injEq, true_and, and_true]
    omega
  · have hv : validU c = true := by unfold validU; rw [decide_eq_true_iff]; omega
    have hr : runeOf c = c := if_neg (by omega)
    rw [hr]
    obtain ⟨h1, h2⟩ := h
    clear hr
    go_enter Tryd.func13, Tryd.ntmps13
    go_wp2_with ((go_at_call 14; refine (validScalarU _ _ (by omega)).mono ?_; rintro e w' ⟨rfl, rfl⟩))
    go_ret
    refine newBytes_ints (encI c) (encI_byte c) rfl _ ?_ 4 (by rw [encI_four h1 h2]; rfl) rfl rfl
    rw [encI_four h1 h2, u64_and63 c (by omega) (by omega), u64_and63 (c / 64) (by omega) (by omega), u64_and63 (c / 4096) (by omega) (by omega), u64_or240 _ (by omega) (by omega), u64_or128 _ (by omega) (by omega), u64_or128 _ (by omega) (by omega), u64_or128 _ (by omega) (by omega)]
    simp only [List.map_cons, List.map_nil, List.cons.injEq, Value.int.injEq, true_and, and_true]
    omega
  · omega
  · have hv : validU c = false := by unfold validU; rw [decide_eq_false_iff_not]; omega
    have hr : encB (runeOf c) = [239, 191, 189] := by
      rw [show runeOf c = c from if_neg (by omega)]
      unfold encB
      rw [encI_bad (by omega)]
      rfl
    rw [hr]
    clear hr
    go_enter Tryd.func13, Tryd.ntmps13
    go_wp2_with ((go_at_call 14; refine (validScalarU _ _ (by omega)).mono ?_; rintro e w' ⟨rfl, rfl⟩))
    go_ret
    exact newBytes_ints [239, 191, 189] (by decide) rfl _ (by kernel_rfl) 3 rfl rfl rfl
  · have hv : validU c = false := by unfold validU; rw [decide_eq_false_iff_not]; omega
    have hr : encB (runeOf c) = [239, 191, 189] := by
      rw [show runeOf c = 65533 from if_pos (by omega)]
      decide +kernel
    rw [hr]
    clear hr
    go_enter Tryd.func13, Tryd.ntmps13
    go_wp2_with ((go_at_call 14; refine (validScalarU _ _ (by omega)).mono ?_; rintro e w' ⟨rfl, rfl⟩))
    go_ret
    exact newBytes_ints [239, 191, 189] (by decide) rfl _ (by kernel_rfl) 3 rfl rfl rfl

theorem at_new {w : World} {bs : List UInt8} {arr : Array Value} (harr : arr.toList = bcells bs) : At (w.alloc (.cells arr 5)) w.heap.size 0 bs := by
  intro j hj
  have hh : (w.alloc (.cells arr 5)).heap[w.heap.size]? = some (.cells arr 5 (0, 0)) := heap_alloc_new w _
  have h2 : arr[j]? = some (.int .u8 (bs[j].toNat : Int)) := by
    rw [← Array.getElem?_toList, harr]
    simp [bcells, hj]
  unfold World.cell?
  simp only [hh]
  simpa using h2

theorem padded_zpad (f : Flags) (cs : List UInt8) (hr : rcount cs = 1) (h0 : 0 ≤ f.wid) : padded f cs = zpad cs 1 f.wid f.widP f.minus f.zero := by
  unfold padded zpad
  rw [hr]
  by_cases hw : f.widP = false
  · rw [if_pos (Or.inl hw), if_pos (Or.inl hw)]
  by_cases hz : f.wid = 0
  · rw [if_pos (Or.inr hz), if_pos (Or.inr (by omega))]
  have hn : ¬ (f.widP = false ∨ f.wid = 0) := fun e => e.elim hw hz
  rw [if_neg hn]
  by_cases h1 : f.wid = 1
  · rw [if_pos (c := f.widP = false ∨ f.wid ≤ 1) (Or.inr (by omega)), h1]
    cases f.minus <;> simp
  · have hn2 : ¬ (f.widP = false ∨ f.wid ≤ 1) := fun e => e.elim hw (fun h => by omega)
    rw [if_neg hn2]
    simp

set_option maxRecDepth 100000 in
set_option maxHeartbeats 2000000 in
theorem cMatches (c wid : Int) (wp mi ze : Bool) (w : World) (hg1 : w.cell? ⟨0, 0, none⟩ = some (.int .i64 2147483647)) (h0 : 0 ≤ c) (hc1 : c ≤ 18446744073709551615) :
    Calls Tryd.prog 3 #[.int .u64 c, .int .i64 wid, .bool wp, .bool mi, .bool ze] w fun e w' => e = .returned (.bool true) ∧ Below w.heap.size w w' := by
  by_cases h1 : wid < 0
  · go_enter Tryd.func3, Tryd.ntmps3
    go_wp2
    go_ret
    exact ⟨rfl, Below.refl _ _⟩
  by_cases h2 : 65536 < wid
  · go_enter Tryd.func3, Tryd.ntmps3
    go_wp2
    go_ret
    exact ⟨rfl, Below.refl _ _⟩
  have hC := Lib.hid (zzFmtC ⟨wp, false, mi, false, false, false, ze, wid, 0⟩ c wid 0 wp false mi false false false ze rfl w hg1 h0 hc1 (by omega) (by omega))
  have HP := Lib.hid (padded_zpad ⟨wp, false, mi, false, false, false, ze, wid, 0⟩ (encB (runeOf c)) (runeCount_encB _) (by simp; omega))
  have hlen : (encB (runeOf c)).length ≤ 4 := by simpa [encB] using (encI_length (runeOf c)).2
  clear hg1
  go_enter Tryd.func3, Tryd.ntmps3
  go_wp2_with (fail)
  refine hC.out.mono ?_
  rintro e w1 ⟨rfl, hb1⟩
  rw [HP.out]
  go_wp2_with (fail)
  refine (zzUTF8 c w1 h0 hc1).mono ?_
  rintro e w2 ⟨arr, harr, rfl, rfl⟩
  have hb2 : Below w1.heap.size w1 (w1.alloc (.cells arr 5)) := (Below.refl _ _).alloc (Nat.le_refl _) _
  have hZ := Lib.hid (zzPad (encB (runeOf c)) w1.heap.size 0 (encB (runeOf c)).length 1 wid wp mi ze _ (at_new harr) (by simp) (by omega) (by omega) (by omega))
  clear harr
  go_wp2_with (fail)
  refine hZ.out.mono ?_
  rintro e w3 ⟨rfl, hb3⟩
  go_wp2
  go_ret
  exact ⟨rfl, hb1.trans ((hb2.trans (hb3.mono hb2.size)).mono hb1.size)⟩

theorem padded_plain (f : Flags) (h : f.widP = false) (cs : List UInt8) : padded f cs = cs := by unfold padded; rw [if_pos (.inl h)]

set_option maxRecDepth 100000 in
set_option maxHeartbeats 2000000 in
theorem zzFmtCPlain (c : Int) (w : World) (hg1 : w.cell? ⟨0, 0, none⟩ = some (.int .i64 2147483647)) (h0 : 0 ≤ c) (hc1 : c ≤ 18446744073709551615) :
    Calls Tryd.prog 11 #[.int .u64 c, .int .i64 0, .int .i64 0, .bool false, .bool false, .bool false, .bool false, .bool false, .bool false, .bool false] w fun e w' => e = .returned (.string ⟨(encB (runeOf c)).toArray⟩) ∧ Below w.heap.size w w' := by
  have h := zzFmtC ⟨false, false, false, false, false, false, false, 0, 0⟩ c 0 0 false false false false false false false rfl w hg1 h0 hc1 (by omega) (by omega)
  rw [padded_plain _ rfl] at h
  exact h

theorem encB_inj {r s : Int} (hr : Scalar r) (hs : Scalar s) (h : encB r = encB s) : r = s := encI_inj hr hs (ofInts_inj (encI_byte r) (encI_byte s) h)

set_option maxRecDepth 100000 in
set_option maxHeartbeats 2000000 in
theorem cInjective (c d : Int) (w : World) (hg1 : w.cell? ⟨0, 0, none⟩ = some (.int .i64 2147483647)) (h0 : 0 ≤ c) (hc1 : c ≤ 18446744073709551615) (d0 : 0 ≤ d) (hd1 : d ≤ 18446744073709551615) :
    Calls Tryd.prog 4 #[.int .u64 c, .int .u64 d] w fun e w' => e = .returned (.bool true) ∧ Below w.heap.size w w' := by
  have hM : 0 < w.heap.size := World.block_lt_of_cell? w ⟨0, 0, none⟩ hg1
  have hC := Lib.hid (zzFmtCPlain c w hg1 h0 hc1)
  have l1 : 1 ≤ (encB (runeOf c)).length := by simpa [encB] using (encI_length (runeOf c)).1
  have l2 : (encB (runeOf c)).length ≤ 4 := by simpa [encB] using (encI_length (runeOf c)).2
  by_cases v1 : validU c = true
  · by_cases v2 : validU d = true
    · have s1 : Scalar c := by unfold validU at v1; have := of_decide_eq_true v1; exact ⟨h0, this⟩
      have s2 : Scalar d := by unfold validU at v2; have := of_decide_eq_true v2; exact ⟨d0, this⟩
      have e1 : runeOf c = c := if_neg (by have := s1.2.1; omega)
      have e2 : runeOf d = d := if_neg (by have := s2.2.1; omega)
      rw [e1] at hC l1 l2
      by_cases hcd : c = d
      · subst hcd
        have hb : (c != c) = false := by simp
        go_enter Tryd.func4, Tryd.ntmps4
        go_wp2_with (fail)
        refine hC.out.mono ?_
        rintro e w1 ⟨rfl, hb1⟩
        have hD := zzFmtCPlain c w1 (maxl_below hb1 hM hg1) d0 hd1
        rw [e1] at hD
        have HD := Lib.hid hD
        clear hg1 hC e1 e2 s1 s2 hD
        go_wp2_with (fail)
        refine HD.out.mono ?_
        rintro e w2 ⟨rfl, hb2⟩
        go_wp2_with ((go_at_call 14; refine (validScalarU _ _ (by omega)).mono ?_; rintro e w' ⟨rfl, rfl⟩))
        go_ret
        exact ⟨rfl, hb1.trans (hb2.mono hb1.size)⟩
      · have hb : (c != d) = true := by simpa using hcd
        have hne : (encB c == encB d) = false := beq_eq_false_iff_ne.2 (fun h => hcd (encB_inj s1 s2 h))
        go_enter Tryd.func4, Tryd.ntmps4
        go_wp2_with (fail)
        refine hC.out.mono ?_
        rintro e w1 ⟨rfl, hb1⟩
        have hD := zzFmtCPlain d w1 (maxl_below hb1 hM hg1) d0 hd1
        rw [e2] at hD
        have HD := Lib.hid hD
        clear hg1 hC e1 e2 s1 s2 hD
        go_wp2_with (fail)
        refine HD.out.mono ?_
        rintro e w2 ⟨rfl, hb2⟩
        go_wp2_with ((go_at_call 14; refine (validScalarU _ _ (by omega)).mono ?_; rintro e w' ⟨rfl, rfl⟩))
        go_ret
        exact ⟨rfl, hb1.trans (hb2.mono hb1.size)⟩
    · have v2' : validU d = false := by simpa using v2
      clear v2
      go_enter Tryd.func4, Tryd.ntmps4
      go_wp2_with (fail)
      refine hC.out.mono ?_
      rintro e w1 ⟨rfl, hb1⟩
      have hD := Lib.hid (zzFmtCPlain d w1 (maxl_below hb1 hM hg1) d0 hd1)
      clear hg1 hC
      go_wp2_with (fail)
      refine hD.out.mono ?_
      rintro e w2 ⟨rfl, hb2⟩
      go_wp2_with ((go_at_call 14; refine (validScalarU _ _ (by omega)).mono ?_; rintro e w' ⟨rfl, rfl⟩))
      go_ret
      exact ⟨rfl, hb1.trans (hb2.mono hb1.size)⟩
  · have v1' : validU c = false := by simpa using v1
    have he : encB (runeOf c) = encB 65533 := by
      unfold validU at v1
      simp only [decide_eq_true_eq] at v1
      by_cases hb : 1114111 < c
      · rw [show runeOf c = 65533 from if_pos hb]
      · rw [show runeOf c = c from if_neg hb]
        unfold encB
        rw [encI_bad (by omega)]
        decide +kernel
    rw [he] at hC l1 l2
    clear v1 he
    go_enter Tryd.func4, Tryd.ntmps4
    go_wp2_with (fail)
    refine hC.out.mono ?_
    rintro e w1 ⟨rfl, hb1⟩
    have hm1 := maxl_below hb1 hM hg1
    have hM1 : 0 < w1.heap.size := Nat.lt_of_lt_of_le hM hb1.size
    have hD := Lib.hid (zzFmtCPlain d w1 hm1 d0 hd1)
    clear hC
    go_wp2_with (fail)
    refine hD.out.mono ?_
    rintro e w2 ⟨rfl, hb2⟩
    have hE := Lib.hid (zzFmtCPlain 65533 w2 (maxl_below hb2 hM1 hm1) (by omega) (by omega))
    clear hD hg1 hm1
    go_wp2_with ((go_at_call 14; refine (validScalarU _ _ (by omega)).mono ?_; rintro e w' ⟨rfl, rfl⟩))
    refine hE.out.mono ?_
    rintro e w3 ⟨rfl, hb3⟩
    have hr65 : runeOf 65533 = 65533 := rfl
    go_wp2
    go_ret
    exact ⟨rfl, hb1.trans ((hb2.trans (hb3.mono hb2.size)).mono hb1.size)⟩
end Go.Proofs.YtaoobkdhlolojaaDoor.Fm
namespace Go.Proofs.YtaoobkdhlolojaaDoor
open Go.Proofs.YtaoobkdhlolojaaDoor.Fm
theorem Fm.maxl_of2 {w : World} (h : laidMetH Tryd.prog Rows.fnFmtCMatchesUTF8ModelRow.laid w) : w.cell? ⟨0, 0, none⟩ = some (.int .i64 2147483647) := by
  rw [MakeChecks.laidMetH_plain _ _ _ (by kernel_rfl)] at h
  exact LawFrame.laid_int h (List.mem_cons_of_mem _ (List.mem_cons_self ..)) (by kernel_rfl) (by kernel_rfl) Tryd.underlying3
theorem Fm.u64_of_wf {a : Int} (h : (Lit.int .u64 a).wf = true) : 0 ≤ a ∧ a ≤ 18446744073709551615 := by
  simp [Lit.wf, IntKind.min, IntKind.max, IntKind.signed, IntKind.bits] at h
  omega
theorem fnFmtCMatchesUTF8Model.walk (a0 : Int) (a1 : Int) (a2 : Bool) (a3 : Bool) (a4 : Bool) (w : World) (w0 : (Lit.int .u64 a0).wf = true) (_w1 : (Lit.int .i64 a1).wf = true) (hL : laidMetH Tryd.prog Rows.fnFmtCMatchesUTF8ModelRow.laid w) :
    Calls Tryd.prog 3 #[.int .u64 a0, .int .i64 a1, .bool a2, .bool a3, .bool a4] w fun e w' => e = .returned (.bool true) ∧ RowKit.Below w.heap.size w w' :=
  cMatches a0 a1 a2 a3 a4 w (maxl_of2 hL) (u64_of_wf w0).1 (u64_of_wf w0).2
theorem fnFmtCInjectiveOnScalars.walk (a0 : Int) (a1 : Int) (w : World) (w0 : (Lit.int .u64 a0).wf = true) (w1 : (Lit.int .u64 a1).wf = true) (hL : laidMetH Tryd.prog Rows.fnFmtCInjectiveOnScalarsRow.laid w) :
    Calls Tryd.prog 4 #[.int .u64 a0, .int .u64 a1] w fun e w' => e = .returned (.bool true) ∧ RowKit.Below w.heap.size w w' :=
  cInjective a0 a1 w (maxl_of2 hL) (u64_of_wf w0).1 (u64_of_wf w0).2 (u64_of_wf w1).1 (u64_of_wf w1).2
end Go.Proofs.YtaoobkdhlolojaaDoor
