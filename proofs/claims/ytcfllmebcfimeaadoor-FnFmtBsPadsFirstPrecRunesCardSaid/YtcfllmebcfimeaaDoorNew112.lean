/- The exports of n002_112: a new formatter, its buffer, fmtSbx. -/
import Derived.Test.YtcfllmebcfimeaaDoorHex
import Derived.Test.YtcfllmebcfimeaaDoorLit
import Derived.Test.YtcfllmebcfimeaaDoorRow2
import Derived.Lib.ConvBytes
namespace Go.Proofs.YtcfllmebcfimeaaDoor.Fm
open Go.ChangeShapes Go.WideShapes Go.ChangeAt Go.RowKit Go.Fmt

/-- A new formatter of the call's own: its buffer's variable in the first new block, it itself in the second. -/
def NewLive (w : World) (f : Flags) (e : Ending) (w' : World) : Prop :=
  e = .returned (.pointer (some ⟨w.heap.size + 1, 0, none⟩)) ∧ Live w' w.heap.size (w.heap.size + 2) (w.heap.size + 1) w.heap.size f [] ∧ Below w.heap.size w w' ∧ w'.heap.size = w.heap.size + 2 ∧ w'.cell? ⟨w.heap.size, 0, none⟩ = some (.slice none 0 0)

set_option maxRecDepth 100000 in
set_option maxHeartbeats 2000000 in
theorem newF2 (f : Flags) (wp : Bool) (wid : Int) (pp : Bool) (prec : Int) (mi pl sh sp ze : Bool) (hf : f = ⟨wp, pp, mi, pl, sh, sp, ze, wid, prec⟩) (w : World) (hM : 0 < w.heap.size) :
    Calls Tryd.prog 26 #[.int .i64 wid, .bool wp, .int .i64 prec, .bool pp, .bool mi, .bool pl, .bool sh, .bool sp, .bool ze] w (NewLive w f) := by
  have HF := Lib.hid hf
  clear hf
  go_enter Tryd.func26, Tryd.ntmps26
  go_wp2
  go_end0
  go_wp2
  go_end0
  go_wp2
  go_ret
  have hz : Tryd.zeroCells57.size = 83 := Tryd.zeroCells57_size
  refine ⟨rfl, litLive w f _ hM ?_ ?_ ?_ ?_ ?_ ?_ ?_ ?_ ?_ ?_ ?_, ((Below.refl _ _).alloc (Nat.le_refl _) _).alloc (by simp) _, by simp, by simp⟩
  all_goals ((try rw [HF.out]); simp [hz])

/-- What the buffer's bytes are handed out as. -/
def BufOut (w : World) (bs : List UInt8) (e : Ending) (w' : World) : Prop := w = w' ∧ ∃ p cap, e = .returned (.slice p bs.length cap) ∧ RowAt w p bs.length bs

theorem zzBuf (N base F B : Nat) (f : Flags) (bs : List UInt8) (w : World) (h : Live w N base F B f bs) : Calls Tryd.prog 33 #[.pointer (some ⟨F, 0, none⟩)] w (BufOut w bs) := by
  obtain ⟨p, cap, h1, _, h3, _, _, _, _⟩ := h.buf
  have h0 := h.fmt.buf
  have HR := Lib.hid (RowAt.of_own h3)
  clear h3 h
  go_enter Tryd.func33, Tryd.ntmps33
  go_wp2
  go_ret
  exact ⟨rfl, p, cap, rfl, HR.out⟩

theorem zzSbx (N base F B : Nat) (f : Flags) (bs src : List UInt8) (s d : ByteArray) (p : Option Addr) (l c : Nat) (w : World) (h : Live w N base F B f bs) (hg1 : w.cell? ⟨0, 0, none⟩ = some (.int .i64 2147483647)) (hs : SrcK w base B src s p l)
    (hl : bs.length ≤ 1000000000) (hwl2 : f.wid ≤ 100000000) (hwl : -100000000 ≤ f.wid) (hn : src.length ≤ 1048576) (hp : -1048576 ≤ f.prec ∨ f.precP = false) (hd : 17 ≤ d.size) :
    Calls Tryd.prog 40 #[.pointer (some ⟨F, 0, none⟩), .string s, .slice p l c, .string d] w fun e w' => e = .returned (.tuple #[]) ∧ Live w' N base F B f (bs ++ hexOut f d src) ∧ Below N w w' := by
  have hC := Lib.hid (sbxK N base F B f bs src s d p l c w h hg1 hs hl hwl2 hwl hn hp hd)
  clear h hg1 hs
  go_enter Tryd.func40, Tryd.ntmps40
  go_wp2_with (fail)
  refine hC.out.mono ?_
  rintro e w' ⟨rfl, h3, h4⟩
  go_wp2
  go_end0
  exact ⟨rfl, h3, h4⟩

/-- A buffer that is still nil may be thought to grow from any later block on. -/
theorem Live.raise {w : World} {N base F B : Nat} {f : Flags} (h : Live w N base F B f []) (b2 : Nat) (h1 : base ≤ b2) (h2 : b2 ≤ w.heap.size) (hn : w.cell? ⟨B, 0, none⟩ = some (.slice none 0 0)) : Live w N b2 F B f [] := by
  obtain ⟨p, cap, _, e2, _, _, _, e6, _⟩ := h.buf
  exact ⟨h.lf, h.lb, h.ne, Nat.lt_of_lt_of_le h.hf h1, h.maxl, h.fmt, Buf.of_nil hn e2 (Nat.lt_of_lt_of_le e6 h1) h2⟩

/-- What a conversion of a string to bytes gives. -/
theorem bytesOf (w : World) (s : ByteArray) : ∃ w4 cap, (convert 9 22 (.string s)).run Tryd.prog w = .ok (.slice (some ⟨w.heap.size, 0, none⟩) s.size cap) w4 ∧ At w4 w.heap.size 0 s.data.toList ∧ Below w.heap.size w w4 ∧ w4.heap.size = w.heap.size + 1 := by
  refine ⟨_, _, Lib.run_convert_string_bytes w 9 22 5 s Tryd.underlying9 Tryd.underlying22 Tryd.underlying5, fun j hj => ?_, ⟨rfl, rfl, rfl, ?_, fun b hb => Lib.bytesWorld_at_old w _ s b hb⟩, Lib.bytesWorld_size w _ s⟩
  · have hj' : j < s.size := by rw [Array.length_toList] at hj; exact hj
    rw [Nat.zero_add, Lib.bytesWorld_cell w 5 s j hj', List.getD_eq_getElem?_getD, List.getElem?_eq_getElem hj]
    rfl
  · rw [Lib.bytesWorld_size]; omega
theorem At.row {w : World} {bk : Nat} {bs : List UInt8} (h : At w bk 0 bs) : RowAt w (some ⟨bk, 0, none⟩) bs.length bs :=
  .inr ⟨_, rfl, rfl, fun j hj => by rw [addr_add0]; have := h j hj; rwa [Nat.zero_add] at this⟩
end Go.Proofs.YtcfllmebcfimeaaDoor.Fm
