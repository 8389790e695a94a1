/- The laws' own padding zzAround. -/
import Derived.Test.YtcfllmebcfimeaaDoorRow2
import Derived.Test.YtcfllmebcfimeaaDoorZPad
import Derived.Test.YtcfllmebcfimeaaDoorCut
import Derived.Lib.Hide
import Derived.LoopTactic
namespace Go.Proofs.YtcfllmebcfimeaaDoor.Fm
open Go.ChangeShapes Go.WideShapes Go.ChangeAt Go.RowKit Go.Fmt

theorem zzPadByte (z : Bool) (w : World) : Calls Tryd.prog 42 #[.bool z] w fun e w' => e = .returned (.int .u8 (padByte z).toNat) ∧ w = w' := by
  cases z
  all_goals
    go_enter Tryd.func42, Tryd.ntmps42
    go_wp2
    go_ret
    exact ⟨rfl, rfl⟩

def around (cs : List UInt8) (n : Nat) (b : UInt8) (left : Bool) : List UInt8 := if left then List.replicate n b ++ cs else cs ++ List.replicate n b

/-- A slice of the call's own, whatever its address. -/
def OwnRow (w : World) (bs : List UInt8) (e : Ending) (w' : World) : Prop :=
  ∃ p cap, e = .returned (.slice p bs.length cap) ∧ w'.ownsRow w.heap.size 5 1 (.slice p bs.length cap) bs.length (bcells bs) ∧ Below w.heap.size w w'

set_option maxRecDepth 100000 in
set_option maxHeartbeats 2000000 in
theorem zzAround (q : Option Addr) (cs : List UInt8) (c n : Nat) (b : UInt8) (left : Bool) (w : World) (hr : RowAt w q cs.length cs) (hc : q = none → c = 0) (hn : n ≤ 65536) (hl : cs.length ≤ 1073741824) :
    Calls Tryd.prog 43 #[.slice q cs.length c, .int .i64 n, .int .u8 b.toNat, .bool left] w (OwnRow w (around cs n b left)) := by
  have hI := Lib.hid info5
  have HC := Lib.hid (show (cs.length : Int) + (n : Int) = ((cs.length + n : Nat) : Int) by omega)
  have HR := Lib.hid hr
  clear hr
  cases left
  · have hA : around cs n b false = cs ++ List.replicate n b := rfl
    rw [hA]
    clear hA
    go_enter Tryd.func43, Tryd.ntmps43
    go_wp2_with (first
      | (at_make; refine make_cap rfl _ _ 22 rfl w.heap.size 5 Tryd.underlying22 hI.out _ (cs.length + n) rfl rfl HC.out (by omega) (Nat.le_refl _) ?_; intro w1 hown1 hb1; have hbs1 := hb1.size)
      | (at_builtin; refine append_any rfl _ _ 22 22 rfl w.heap.size 5 Tryd.underlying22 Tryd.underlying22 hI.out _ [] _ rfl hown1 q c cs rfl (HR.out.old hb1) hc (by simp; omega) hbs1 ?_; intro p2 cap2 w2 hown2 hle2 hcap2 hgrow2; have hb2 := hb1.trans ((Below.refl _ w1).grown hgrow2 hbs1 (fun k hk => (hown1.lt k hk).1))))
    simp only [List.length_nil, Nat.zero_add, List.nil_append] at hown2 ⊢
    clear hgrow2 hown1
    go_loopw [9, 11] (fun s i wr => ∃ (p3 : Option Addr) (xs : List UInt8) (k cap3 : Nat), s = .slice p3 xs.length cap3 ∧ k ≤ n ∧ i = .int .i64 k ∧ Hid (xs = cs ++ List.replicate k b) ∧ wr.ownsRow w.heap.size 5 1 (.slice p3 xs.length cap3) xs.length (bcells xs) ∧ Below w.heap.size w wr) (fun _ i _ => n - (intOf i).toNat)
    case atStart => exact ⟨p2, cs, 0, cap2, rfl, Nat.zero_le _, rfl, Lib.hid (by simp), hown2, hb2⟩
    case round =>
      obtain ⟨p3, xs, k, cap3, rfl, hk, rfl, HX, hown3, hb3⟩ := hrel
      have hbs3 := hb3.size
      have hxl : xs.length ≤ 1073741824 + 65536 := by rw [HX.out]; simp; omega
      by_cases hlt : k < n
      · go_wp2_with ((at_builtin; refine append_new (w0 := wr) rfl _ _ 22 rfl w.heap.size 5 Tryd.underlying22 hI.out p3 xs cap3 rfl hown3 _ [b] (cells_byte b) _ rfl (by simp; omega) hbs3 ?_; intro p' cap' w' hown' hcap1 hcap2 hgrow))
        have e1 : (xs ++ [b]).length = xs.length + 1 := by simp
        refine ⟨⟨p', xs ++ [b], k + 1, cap', by rw [e1], hlt, by go_num, Lib.hid ?_, by rw [e1] at hown' ⊢; exact hown', hb3.trans ((Below.refl _ wr).grown hgrow hbs3 (fun k hk => (hown3.lt k hk).1))⟩, by simp [intOf]; omega⟩
        rw [HX.out, List.replicate_succ', ← List.append_assoc]
      · obtain rfl : k = n := by omega
        go_wp2
        go_ret
        rw [← HX.out]
        exact ⟨p3, cap3, rfl, hown3, hb3⟩
  · have hA : around cs n b true = List.replicate n b ++ cs := rfl
    rw [hA]
    clear hA
    go_enter Tryd.func43, Tryd.ntmps43
    go_wp2_with (first
      | (at_make; refine make_cap rfl _ _ 22 rfl w.heap.size 5 Tryd.underlying22 hI.out _ (cs.length + n) rfl rfl HC.out (by omega) (Nat.le_refl _) ?_; intro w1 hown1 hb1; have hbs1 := hb1.size))
    go_loopw [9, 10] (fun s i wr => ∃ (p3 : Option Addr) (xs : List UInt8) (k cap3 : Nat), s = .slice p3 xs.length cap3 ∧ k ≤ n ∧ i = .int .i64 k ∧ Hid (xs = List.replicate k b) ∧ wr.ownsRow w.heap.size 5 1 (.slice p3 xs.length cap3) xs.length (bcells xs) ∧ Below w.heap.size w wr) (fun _ i _ => n - (intOf i).toNat)
    case atStart => exact ⟨_, [], 0, _, rfl, Nat.zero_le _, rfl, Lib.hid (by simp), hown1, hb1⟩
    case round =>
      obtain ⟨p3, xs, k, cap3, rfl, hk, rfl, HX, hown3, hb3⟩ := hrel
      have hbs3 := hb3.size
      have hxl : xs.length ≤ 65536 := by rw [HX.out]; simp; omega
      by_cases hlt : k < n
      · go_wp2_with ((at_builtin; refine append_new (w0 := wr) rfl _ _ 22 rfl w.heap.size 5 Tryd.underlying22 hI.out p3 xs cap3 rfl hown3 _ [b] (cells_byte b) _ rfl (by simp; omega) hbs3 ?_; intro p' cap' w' hown' hcap1 hcap2 hgrow))
        have e1 : (xs ++ [b]).length = xs.length + 1 := by simp
        refine ⟨⟨p', xs ++ [b], k + 1, cap', by rw [e1], hlt, by go_num, Lib.hid ?_, by rw [e1] at hown' ⊢; exact hown', hb3.trans ((Below.refl _ wr).grown hgrow hbs3 (fun k hk => (hown3.lt k hk).1))⟩, by simp [intOf]; omega⟩
        rw [HX.out, List.replicate_succ']
      · obtain rfl : k = n := by omega
        go_wp2_with ((at_builtin; refine append_any rfl _ _ 22 22 rfl w.heap.size 5 Tryd.underlying22 Tryd.underlying22 hI.out p3 xs cap3 rfl hown3 q c cs rfl (HR.out.old hb3) hc (by omega) hbs3 ?_; intro p2 cap2 w2 hown2 hle2 hcap2 hgrow2))
        go_ret
        have e1 : (xs ++ cs).length = xs.length + cs.length := List.length_append
        rw [← HX.out]
        exact ⟨p2, cap2, by rw [e1]; rfl, by rw [e1] at hown2 ⊢; exact hown2, hb3.trans ((Below.refl _ wr).grown hgrow2 hbs3 (fun k hk => (hown3.lt k hk).1))⟩
end Go.Proofs.YtcfllmebcfimeaaDoor.Fm
