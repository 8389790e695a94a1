/- fmtQ with plus and no width: a quoted text of printable bytes is written. -/
import Derived.Test.YtlekmfkcbgkfgaaDoorQq
import Derived.Test.YtlekmfkcbgkfgaaDoorTrunc
namespace Go.Proofs.YtlekmfkcbgkfgaaDoor.Fm
open Go.ChangeShapes Go.WideShapes Go.ChangeAt Go.RowKit Go.Fmt Go.Lib

theorem toASCII (W0 : World) (N F B : Nat) (f : Flags) (s : ByteArray) (w : World) (hN : N = W0.heap.size) (hU : Lib.Utf8Tabs 2 3 W0) (hb0 : Below N W0 w) (hf : Fresh w N F B f) (hs : s.size ≤ 1048576) :
    Calls Tryd.prog 11 #[.slice (some ⟨F, 15, none⟩) 0 68, .string s] w (QuoOf W0 N F B f) := by
  have HQ := Lib.hid (quoted W0 N F B f s w hN hU hb0 hf hs)
  clear hN hU hb0 hf
  go_enter Tryd.func11, Tryd.ntmps11
  go_wp2_with (fail)
  refine HQ.out.mono ?_
  rintro e w' ⟨v', bs, rfl, h1, h2, h3, h4, h5, h6, h7⟩
  go_wp2
  go_ret
  exact ⟨_, bs, rfl, h1, h2, h3, h4, h5, h6, h7⟩
/-- A quoted text. -/
structure Quo (bs : List UInt8) : Prop where
  lo : 2 ≤ bs.length
  hi : bs.length ≤ 20000000
  pr : Pr bs
  hd : bs.head? = some 34
  lt : bs.getLast? = some 34
theorem padded_none (f : Flags) (h : f.widP = false) (cs : List UInt8) : padded f cs = cs := by unfold padded; rw [if_pos (.inl h)]
theorem cut_size {pp : Bool} {prec : Int} {s t : ByteArray} (h : t.data.toList = cutB pp prec s) : t.size ≤ s.size := by
  have h1 : t.data.toList.length ≤ s.data.toList.length := by
    rw [h]; unfold cutB
    split
    · rw [List.length_take]; omega
    · exact Nat.le_refl _
  rwa [Array.length_toList, Array.length_toList] at h1
set_option maxRecDepth 100000 in
set_option maxHeartbeats 2000000 in
theorem fmtQ (W0 : World) (N F B : Nat) (f : Flags) (s : ByteArray) (w : World) (hN : N = W0.heap.size) (hU : Lib.Utf8Tabs 2 3 W0) (hb0 : Below N W0 w) (hf : Fresh w N F B f) (hs : s.size ≤ 1048576)
    (hg1 : W0.cell? ⟨0, 0, none⟩ = some (.int .i64 2147483647)) (hM : 0 < W0.heap.size) (hp : I64 f.prec) (h1 : f.widP = false) (h2 : f.plus = true) (h3 : f.sharp = false) (h4 : f.wid = 0) :
    Calls Tryd.prog 6 #[.pointer (some ⟨F, 0, none⟩), .string s] w fun e w' => e = .returned (.tuple #[]) ∧ ∃ bs base, Quo bs ∧ Live w' N base F B f bs ∧ Below N W0 w' := by
  have HT := Lib.hid (truncS F ⟨B, 0, none⟩ f s w hf.fmt hp)
  have HF := Lib.hid hf
  have HB0 := Lib.hid hb0
  have HU := Lib.hid hU
  have HN := Lib.hid hN
  have H1 := Lib.hid h1
  have H4 := Lib.hid h4
  have HG := Lib.hid hg1
  have H2 := Lib.hid h2
  have H3 := Lib.hid h3
  clear hf hb0 hU hN h1 h4 hg1 h2 h3
  go_enter Tryd.func6, Tryd.ntmps6
  go_wp2_with (fail)
  refine HT.out.mono ?_
  rintro e w1 ⟨t, rfl, ht, hb1⟩
  have hts := cut_size ht
  have hb01 : Below N W0 w1 := HB0.out.trans (hb1.mono (Nat.le_trans HF.out.lf (Nat.le_of_lt HF.out.ltf)))
  have hf1 := HF.out.grow hb1
  have q1 := hf1.fmt.sharp
  have q2 := hf1.fmt.plus
  rw [H3.out] at q1
  rw [H2.out] at q2
  have HA := Lib.hid (toASCII W0 N F B f t w1 HN.out HU.out hb01 hf1 (by omega))
  have HB1 := Lib.hid hb01
  clear hb1 ht hts hf1 hb01
  go_wp2_with (fail)
  refine HA.out.mono ?_
  rintro e w2 ⟨v2, bs, rfl, a1, a2, a3, a4, a5, a6, a7⟩
  obtain ⟨G, O, c, rfl, b1, b2, b3, b4, b5⟩ := a1
  have hm2 : w2.cell? ⟨0, 0, none⟩ = some (.int .i64 2147483647) := maxl_below (HN.out ▸ a7) hM HG.out
  have HP0 := padLive N w2.heap.size F B f [] bs (some ⟨G, O, none⟩) c w2 b3.live (.inr ⟨G, O, rfl, b4.lt, b4.gb, b5⟩) (fun e => by cases e) b1 hm2 (by simp; omega) (by rw [H4.out]; omega) (by rw [H4.out]; omega)
  rw [padded_none f H1.out, List.nil_append] at HP0
  have HP := Lib.hid HP0
  have HA7 := Lib.hid a7
  clear HP0 hm2 b1 b2 b3 b4 b5 a7
  go_wp2_with (fail)
  refine HP.out.mono ?_
  rintro e w3 ⟨rfl, c1, c2⟩
  go_wp2
  go_end0
  exact ⟨rfl, bs, _, ⟨a2, a3, a4, a5, a6⟩, c1, HA7.out.trans c2⟩
theorem litFresh (w : World) (f : Flags) (arr : Array Value) (hM : 0 < w.heap.size) (hs : arr.size = 83)
    (h0 : arr[0]? = some (.pointer (some ⟨w.heap.size, 0, none⟩))) (h1 : arr[1]? = some (.bool f.widP)) (h2 : arr[2]? = some (.bool f.precP)) (h3 : arr[3]? = some (.bool f.minus)) (h4 : arr[4]? = some (.bool f.plus)) (h5 : arr[5]? = some (.bool f.sharp))
    (h6 : arr[6]? = some (.bool f.space)) (h7 : arr[7]? = some (.bool f.zero)) (h13 : arr[13]? = some (.int .i64 f.wid)) (h14 : arr[14]? = some (.int .i64 f.prec)) :
    Fresh ((w.alloc (.cells #[.slice none 0 0] 25)).alloc (.cells arr 32)) w.heap.size (w.heap.size + 1) w.heap.size f := by
  refine ⟨(litLive w f arr hM hs h0 h1 h2 h3 h4 h5 h6 h7 h13 h14).fmt, ?_, ?_, by omega, Nat.le_refl _, by omega, by simp, by simp; omega, hM⟩
  · simp
  · simp
set_option maxRecDepth 100000 in
set_option maxHeartbeats 2000000 in
theorem zzFmtQ (s : ByteArray) (prec : Int) (pp : Bool) (w : World) (hg1 : w.cell? ⟨0, 0, none⟩ = some (.int .i64 2147483647)) (hU : Lib.Utf8Tabs 2 3 w) (hs : s.size ≤ 1048576) (hp : I64 prec) :
    Calls Tryd.prog 5 #[.string s, .int .i64 0, .int .i64 prec, .bool false, .bool pp, .bool false, .bool true, .bool false, .bool false, .bool false] w fun e w' => ∃ bs, Quo bs ∧ e = .returned (.string ⟨bs.toArray⟩) ∧ Below w.heap.size w w' := by
  have hM : 0 < w.heap.size := World.block_lt_of_cell? w ⟨0, 0, none⟩ hg1
  have hbel : ∀ {arr : Array Value}, Below w.heap.size w ((w.alloc (.cells #[.slice none 0 0] 25)).alloc (.cells arr 32)) := ((Below.refl _ _).alloc (Nat.le_refl _) _).alloc (by simp) _
  have HG := Lib.hid hg1
  have HU := Lib.hid hU
  clear hg1 hU
  have hzf := zeroF
  have hzs := zcells_size
  have hzn := zcells_ne
  go_enter Tryd.func5, Tryd.ntmps5
  go_wp2_with (fail)
  refine (fmtQ w w.heap.size (w.heap.size + 1) w.heap.size ⟨false, pp, false, true, false, false, false, 0, prec⟩ s _ rfl HU.out hbel ?hL hs HG.out hM hp rfl rfl rfl rfl).mono ?_
  case hL =>
    have hz := zcells_size
    refine litFresh w _ _ hM ?_ ?_ ?_ ?_ ?_ ?_ ?_ ?_ ?_ ?_ ?_
    all_goals simp [hz]
  rintro e w2 ⟨rfl, bs, base, hq, hl2, hb2⟩
  obtain ⟨p, cap, h1, h2, h3, h4, h5, h6, h7⟩ := hl2.buf
  have hcv := conv_own (P := Tryd.prog) (src := 25) (dst := 9) _ rfl h3 Tryd.underlying25 Tryd.underlying5 Tryd.underlying9
  go_wp2
  go_ret
  exact ⟨bs, hq, rfl, hb2⟩
end Go.Proofs.YtlekmfkcbgkfgaaDoor.Fm
