/- The laws' own model zzPad: the text padded to the width. -/
import Derived.Test.YtcfllmebcfimeaaDoorBase
import Derived.WalkKit
import Derived.ProofKit
import Derived.OwnWalk
import Derived.Lib.Hide
import Derived.LoopTactic
import Derived.Deep.LoopGhost
import Derived.WalkLawsBesides
import Derived.WalkSpells
import Derived.Deep.DeepCutAuto
namespace Go.Proofs.YtcfllmebcfimeaaDoor.Fm
open Go.ChangeShapes Go.WideShapes Go.ChangeAt Go.RowKit Go.Fmt

/-- 'make([]byte, 0, n)', n a variable. -/
theorem make_cap {P : Program} {w : World} {ops : Array Oper} {rest : List Oper} {o : Oper} {a : Act} {Q : Exit → Act → World → Prop}
    (hg : o.guard = none) (l c : Operand) (t : TypeId) (hop : o.op = Op.makeSlice t l c) (base : Nat) (e : TypeId) (h1 : P.underlying t = some (.slice e))
    (hinfo : (P.info? e).map (fun i => (i.zero, i.size, i.bytes)) = some (some (.int .u8 0), 1, 1)) (C : Int) (n : Nat) (hl : a.eval l = .int .i64 0) (hc : a.eval c = .int .i64 C) (hC : C = (n : Int)) (b2 : n ≤ 281474976710656) (b4 : base ≤ w.heap.size)
    (hK : ∀ w', w'.ownsRow base e 1 (.slice (some ⟨w.heap.size, 0, none⟩) 0 n) 0 [] → Below w.heap.size w w' → wpList P ops Q rest (a.put o.dst (.slice (some ⟨w.heap.size, 0, none⟩) 0 n)) w') :
    wpList P ops Q (o :: rest) a w := by
  obtain ⟨i, hi, hz, hs, hb⟩ := info_parts hinfo
  refine wpList_make_own w hg l c t hop base e i (.int .u8 0) 1 h1 hi hz hs .i64 .i64 C n hl hc hC (by rw [hb]; omega) (by unfold maxLen; omega) b4 ?_
  intro w' ho hgr
  exact hK w' ho ((Below.refl _ w).grown hgr (Nat.le_refl _) (fun k hk => by cases hk))

/-- The text 'cs' of so many runes, padded. -/
def zpad (cs : List UInt8) (runes wid : Int) (wp mi ze : Bool) : List UInt8 :=
  if wp = false ∨ wid ≤ runes then cs
  else if mi then cs ++ List.replicate (wid - runes).toNat (padByte ze)
  else List.replicate (wid - runes).toNat (padByte ze) ++ cs

/-- The bytes 'cs' lie at ⟨bk, o⟩. -/
def At (w : World) (bk o : Nat) (cs : List UInt8) : Prop := ∀ j (hj : j < cs.length), w.cell? ⟨bk, o + j, none⟩ = some (.int .u8 (cs[j].toNat : Int))
theorem At.cells {w : World} {bk o : Nat} {cs : List UInt8} (h : At w bk o cs) : ∀ j u, (bcells cs)[j]? = some u → w.cell? ((⟨bk, o, none⟩ : Addr).add j) = some u := by
  intro j u hj
  have hl := (List.getElem?_eq_some_iff.1 hj).1
  rw [bcells_length] at hl
  rw [addr_add, h j hl]
  simp [bcells, List.getElem?_eq_getElem hl] at hj
  rw [← hj]
theorem At.below {w w' : World} {bk o B : Nat} {cs : List UInt8} (h : At w bk o cs) (hb : Below B w w') (hk : bk < B) : At w' bk o cs := fun j hj => (hb.cell hk).trans (h j hj)
theorem At.conv {P : Program} {w : World} {bk o cap : Nat} {src e dst : TypeId} {cs : List UInt8} (h : At w bk o cs) (hs : P.underlying src = some (.slice e)) (he : P.underlying e = some (.int .u8)) (hd : P.underlying dst = some .string) :
    (convert src dst (.slice (some ⟨bk, o, none⟩) cs.length cap)).run P w = .ok (.string ⟨cs.toArray⟩) w :=
  run_convert_bytes_back w src dst e ⟨bk, o, none⟩ cap cs hs he hd (fun j hj => by rw [addr_add]; exact h j hj)

set_option maxRecDepth 100000 in
set_option maxHeartbeats 1000000 in
theorem zzPad0 (cs : List UInt8) (bk o c : Nat) (runes wid : Int) (wp mi ze : Bool) (w : World) (hs : At w bk o cs) (hw : wp = false ∨ wid ≤ runes) :
    Calls Tryd.prog 21 #[.slice (some ⟨bk, o, none⟩) cs.length c, .int .i64 runes, .int .i64 wid, .bool wp, .bool mi, .bool ze] w fun e w' => e = .returned (.string ⟨cs.toArray⟩) ∧ w = w' := by
  have hcv := hs.conv (P := Tryd.prog) (cap := c) (src := 22) (dst := 9) Tryd.underlying22 Tryd.underlying5 Tryd.underlying9
  clear hs
  cases wp
  · go_enter Tryd.func21, Tryd.ntmps21
    go_wp2
    go_ret
    exact ⟨rfl, rfl⟩
  · have hle : wid ≤ runes := hw.resolve_left (by simp)
    clear hw
    go_enter Tryd.func21, Tryd.ntmps21
    go_wp2
    go_ret
    exact ⟨rfl, rfl⟩

theorem ret_str {a b : List UInt8} (h : a = b) : Ending.returned (.string ⟨a.toArray⟩) = .returned (.string ⟨b.toArray⟩) := by rw [h]
theorem cells_byte (b : UInt8) : (#[Value.int .u8 b.toNat] : Array Value).toList = bcells [b] := rfl

set_option maxRecDepth 100000 in
set_option maxHeartbeats 2000000 in
theorem zzPad1 (cs : List UInt8) (bk o c : Nat) (runes wid : Int) (mi ze : Bool) (w : World) (hs : At w bk o cs) (hbk : bk < w.heap.size) (hw : runes < wid) (hr : 0 ≤ runes) (hw2 : wid ≤ 65536) (hl : cs.length ≤ 1073741824) :
    Calls Tryd.prog 21 #[.slice (some ⟨bk, o, none⟩) cs.length c, .int .i64 runes, .int .i64 wid, .bool true, .bool mi, .bool ze] w fun e w' => e = .returned (.string ⟨(zpad cs runes wid true mi ze).toArray⟩) ∧ Below w.heap.size w w' := by
  obtain ⟨k, hk⟩ : ∃ k : Nat, (k : Int) = wid - runes := ⟨(wid - runes).toNat, by omega⟩
  have hz : zpad cs runes wid true mi ze = (if mi then cs else []) ++ List.replicate k (padByte ze) ++ (if mi then [] else cs) := by
    unfold zpad
    rw [if_neg (by simp; omega), show (wid - runes).toNat = k by omega]
    cases mi <;> simp
  have HZ := Lib.hid hz
  have hI := Lib.hid info5
  have hd0 : decide (wid ≤ runes) = false := by simp; omega
  have hk65 : k ≤ 65536 := by omega
  have HK := Lib.hid hk
  have HC := Lib.hid (show wid - runes + (cs.length : Int) = ((k + cs.length : Nat) : Int) by omega)
  clear hz hk
  go_enter Tryd.func21, Tryd.ntmps21
  go_upto_if 29 with (fail)
  go_cut [14] (fun s14 wx => s14 = .int .u8 (padByte ze).toNat ∧ w = wx)
  case first =>
    cases ze
    all_goals
      go_wp2
      go_meet
      exact ⟨rfl, rfl⟩
  case rest =>
    obtain ⟨rfl, rfl⟩ := hcut
    generalize hpb : padByte ze = pb
    have HP := Lib.hid hpb
    clear hpb
    go_upto_if 35 with ((at_make; refine make_cap rfl _ _ 22 rfl w.heap.size 5 Tryd.underlying22 hI.out _ (k + cs.length) rfl rfl HC.out (by omega) (Nat.le_refl _) ?_; intro w1 hown1 hbel1))
    have hbs1 := hbel1.size
    have hs1 := Lib.hid ((hs.below hbel1 hbk).cells)
    go_cut [15] (fun s15 wx => ∃ p1 cap1, s15 = .slice p1 (if mi then cs else []).length cap1 ∧ wx.ownsRow w.heap.size 5 1 (.slice p1 (if mi then cs else []).length cap1) (if mi then cs else []).length (bcells (if mi then cs else [])) ∧ Below w.heap.size w wx)
    case first =>
      cases mi
      · go_wp2
        go_meet
        exact ⟨_, _, rfl, hown1, hbel1⟩
      · go_wp2_with ((at_builtin; refine append_row rfl _ _ 22 rfl w.heap.size 5 Tryd.underlying22 hI.out _ [] _ rfl hown1 ⟨bk, o, none⟩ c cs rfl hs1.out (by simp; omega) (by omega) ?_; intro p' cap' w' hown' hcap1 hcap2 hgrow))
        go_meet
        exact ⟨p', cap', by simp, by simpa using hown', hbel1.trans ((Below.refl _ w1).grown hgrow (by omega) (fun k hk => (hown1.lt k hk).1))⟩
    case rest =>
      obtain ⟨p1, cap1, rfl, hown2, hbel2⟩ := hcut
      have hml : (if mi = true then cs else []).length ≤ 1073741824 := by split <;> simp [hl]
      have hs2 := Lib.hid (fun w' (h : Below w.heap.size w w') => (hs.below h hbk).cells)
      clear hs hs1 hown1 hbel1 hbs1
      generalize hpre : (if mi = true then cs else []) = pre at *
      have HPre := Lib.hid hpre
      clear hpre
      have hck : decide ((0 : Int) < wid - runes) = true := by simp; omega
      go_wp2
      go_loopw [15, 16] (fun s15 i wr => ∃ (p2 : Option Addr) (xs : List UInt8) (k2 cap2 : Nat), s15 = .slice p2 xs.length cap2 ∧ k2 ≤ k ∧ i = .int .i64 k2 ∧ Hid (xs = pre ++ List.replicate k2 pb) ∧ wr.ownsRow w.heap.size 5 1 (.slice p2 xs.length cap2) xs.length (bcells xs) ∧ Below w.heap.size w wr) (fun _ i _ => k - (intOf i).toNat)
      case atStart => exact ⟨p1, pre, 0, cap1, rfl, Nat.zero_le _, rfl, Lib.hid (by simp), hown2, hbel2⟩
      case round =>
        obtain ⟨p2, xs, k2, cap2, rfl, hk2, rfl, HX, hown3, hbel3⟩ := hrel
        have hbs3 := hbel3.size
        have hxl : xs.length ≤ 1073741824 + 65536 := by rw [HX.out]; simp; omega
        by_cases hlt : k2 < k
        · have hlt' : (k2 : Int) < wid - runes := by have := HK.out; omega
          go_wp2_with ((at_builtin; refine append_new (w0 := wr) rfl _ _ 22 rfl w.heap.size 5 Tryd.underlying22 hI.out p2 xs cap2 rfl hown3 _ [pb] (cells_byte pb) _ rfl (by simp; omega) hbs3 ?_; intro p' cap' w' hown' hcap1 hcap2 hgrow))
          have e1 : (xs ++ [pb]).length = xs.length + 1 := by simp
          refine ⟨⟨p', xs ++ [pb], k2 + 1, cap', by rw [e1], hlt, by go_num, Lib.hid ?_, by rw [e1] at hown' ⊢; exact hown', hbel3.trans ((Below.refl _ wr).grown hgrow hbs3 (fun k hk => (hown3.lt k hk).1))⟩, by simp [intOf]; omega⟩
          rw [HX.out, List.replicate_succ', ← List.append_assoc]
        · obtain rfl : k2 = k := by omega
          have hge : ¬ ((k2 : Int) < wid - runes) := by have := HK.out; omega
          have hs3 := Lib.hid (hs2.out wr hbel3)
          cases mi
          · go_wp2_with ((at_builtin; refine append_row rfl _ _ 22 rfl w.heap.size 5 Tryd.underlying22 hI.out p2 xs cap2 rfl hown3 ⟨bk, o, none⟩ c cs rfl hs3.out (by omega) hbs3 ?_; intro p' cap' w' hown' hcap1 hcap2 hgrow; have hcv := conv_own (P := Tryd.prog) (n := xs.length + cs.length) (src := 22) (dst := 9) (xs ++ cs) (by simp) hown' Tryd.underlying22 Tryd.underlying5 Tryd.underlying9))
            go_ret
            refine ⟨?_, hbel3.trans ((Below.refl _ wr).grown hgrow hbs3 (fun k hk => (hown3.lt k hk).1))⟩
            refine ret_str ?_
            rw [HZ.out, HX.out, HP.out, show pre = [] by simpa using HPre.out.symm]
            simp
          · have hcv := conv_own (P := Tryd.prog) (src := 22) (dst := 9) xs rfl hown3 Tryd.underlying22 Tryd.underlying5 Tryd.underlying9
            go_wp2
            go_ret
            refine ⟨ret_str ?_, hbel3⟩
            rw [HZ.out, HX.out, HP.out, show pre = cs by simpa using HPre.out.symm]
            simp

theorem zzPad (cs : List UInt8) (bk o c : Nat) (runes wid : Int) (wp mi ze : Bool) (w : World) (hs : At w bk o cs) (hbk : bk < w.heap.size) (hr : 0 ≤ runes) (hw2 : wid ≤ 65536) (hl : cs.length ≤ 1073741824) :
    Calls Tryd.prog 21 #[.slice (some ⟨bk, o, none⟩) cs.length c, .int .i64 runes, .int .i64 wid, .bool wp, .bool mi, .bool ze] w fun e w' => e = .returned (.string ⟨(zpad cs runes wid wp mi ze).toArray⟩) ∧ Below w.heap.size w w' := by
  by_cases h : wp = false ∨ wid ≤ runes
  · have hz : zpad cs runes wid wp mi ze = cs := by unfold zpad; rw [if_pos h]
    rw [hz]
    refine (zzPad0 cs bk o c runes wid wp mi ze w hs h).mono ?_
    rintro e w' ⟨rfl, rfl⟩
    exact ⟨rfl, Below.refl _ _⟩
  · obtain rfl : wp = true := by simpa using fun e => h (.inl e)
    exact zzPad1 cs bk o c runes wid mi ze w hs hbk (by simp at h; omega) hr hw2 hl
end Go.Proofs.YtcfllmebcfimeaaDoor.Fm
