/- fmtBs: the first 'prec' runes of a slice of bytes, padded; the exports that the laws call. -/
import Derived.Test.YtcfllmebcfimeaaDoorTruncB
import Derived.Test.YtcfllmebcfimeaaDoorClone2
namespace Go.Proofs.YtcfllmebcfimeaaDoor.Fm
open Go.ChangeShapes Go.WideShapes Go.ChangeAt Go.RowKit Go.Fmt

theorem row_conv {w : World} {p : Option Addr} {cap : Nat} {bs : List UInt8} (h : RowAt w p bs.length bs) : (convert 22 9 (.slice p bs.length cap)).run Tryd.prog w = .ok (.string (sOf bs)) w := by
  rcases h with ⟨rfl, _, rfl⟩ | ⟨x, rfl, _, h⟩
  · exact Go.Lib.run_convert_nil_bytes w 22 9 5 _ Tryd.underlying22 Tryd.underlying5 Tryd.underlying9
  · exact run_convert_bytes_back w 22 9 5 x cap bs Tryd.underlying22 Tryd.underlying5 Tryd.underlying9 h
/-- What the laws' own copy of a slice is good for. -/
theorem cpy_of {w w1 : World} {p : Option Addr} {bs : List UInt8} {e : Ending} (h : CopyOf w p bs e w1) :
    ∃ q c, e = .returned (.slice q bs.length c) ∧ Cpy w1 q c bs ∧ (∀ g, q = some ⟨g, 0, none⟩ → g < w1.heap.size) ∧ Below w.heap.size w w1 := by
  rcases h with ⟨rfl, rfl, rfl, rfl⟩ | ⟨g, rfl, hown, hb⟩
  · exact ⟨none, 0, rfl, .inl ⟨rfl, rfl, rfl⟩, (fun g h => by cases h), Below.refl _ _⟩
  · have hr := RowAt.of_own hown
    rcases hr with ⟨h, _⟩ | ⟨x, hx, _, hh⟩
    · cases h
    · cases hx
      exact ⟨some ⟨g, 0, none⟩, bs.length, rfl, .inr ⟨g, rfl, fun j hj => by have := hh j hj; rw [addr_add0] at this; rw [Nat.zero_add]; exact this, Nat.le_refl _⟩, (fun g' h => by cases h; exact (hown.lt g rfl).2), hb⟩
theorem Cpy.src {w : World} {q : Option Addr} {c : Nat} {bs : List UInt8} (h : Cpy w q c bs) {base B N : Nat} (hN : ∀ g, q = some ⟨g, 0, none⟩ → g < N) (h1 : N ≤ B) (h2 : N ≤ base) : Src w base B q bs := by
  rcases h with ⟨rfl, rfl, _⟩ | ⟨g, rfl, hat, _⟩
  · exact .inl ⟨rfl, rfl⟩
  · have := hN g rfl
    exact .inr ⟨g, 0, rfl, by omega, by omega, hat⟩

theorem fmtBs (N base F B : Nat) (f : Flags) (b0 : List UInt8) (q : Option Addr) (c : Nat) (bs : List UInt8) (w : World) (h : Live w N base F B f b0) (hg1 : w.cell? ⟨0, 0, none⟩ = some (.int .i64 2147483647))
    (hp : I64 f.prec) (hc : Cpy w q c bs) (hq : ∀ g, q = some ⟨g, 0, none⟩ → g < N) (hs : bs.length ≤ 1048576) (hl : b0.length ≤ 1048576) (hwl : -1073741824 ≤ f.wid) (hwl2 : f.wid ≤ 1073741823) (hT : Lib.Utf8Tabs 2 3 w) (h2 : 2 < w.heap.size) (h3 : 3 < w.heap.size) :
    Calls Tryd.prog 51 #[.pointer (some ⟨F, 0, none⟩), .slice q bs.length c] w fun e w' => e = .returned (.tuple #[]) ∧ Live w' N base F B f (b0 ++ padded f (cutB f.precP f.prec (sOf bs))) ∧ Below N w w' := by
  have HT := Lib.hid (truncB F ⟨B, 0, none⟩ f q c bs w h.fmt hp hc hs hT h2 h3)
  have hN : N ≤ w.heap.size := Nat.le_trans h.lf (Nat.le_trans (Nat.le_of_lt h.hf) h.buf.base_le)
  have hNb : N ≤ base := Nat.le_trans h.lf (Nat.le_of_lt h.hf)
  have hcl := cut_length_le f.precP f.prec bs
  have HC := Lib.hid (hc.cut f.precP f.prec)
  obtain ⟨X, hX⟩ : ∃ X, X = cutB f.precP f.prec (sOf bs) := ⟨_, rfl⟩
  rw [← hX] at HT hcl HC ⊢
  have HL := Lib.hid h
  have HG := Lib.hid hg1
  have HQ := Lib.hid hq
  clear h hg1 hc hq hT hX hp
  go_enter Tryd.func51, Tryd.ntmps51
  go_wp2_with (fail)
  refine HT.out.mono ?_
  rintro e w1 ⟨rfl, hb1⟩
  have hm1 := maxl_below (hb1.mono hN) HL.out.maxl HG.out
  have hC1 := HC.out.old hb1
  have HP := Lib.hid (padLive N base F B f b0 X q c w1 (HL.out.grow hb1) (hC1.src HQ.out HL.out.lb hNb) hC1.nil hC1.cap hm1 (by omega) hwl hwl2)
  clear hm1 hC1
  go_wp2_with (fail)
  refine HP.out.mono ?_
  rintro e w2 ⟨rfl, h2, hb2⟩
  have HH := Lib.hid h2
  clear h2
  go_wp2
  go_end0
  exact ⟨rfl, HH.out, (hb1.mono hN).trans hb2⟩
theorem zzFBS (N base F B : Nat) (f : Flags) (b0 : List UInt8) (q : Option Addr) (c : Nat) (bs : List UInt8) (w : World) (h : Live w N base F B f b0) (hg1 : w.cell? ⟨0, 0, none⟩ = some (.int .i64 2147483647))
    (hp : I64 f.prec) (hc : Cpy w q c bs) (hq : ∀ g, q = some ⟨g, 0, none⟩ → g < N) (hs : bs.length ≤ 1048576) (hl : b0.length ≤ 1048576) (hwl : -1073741824 ≤ f.wid) (hwl2 : f.wid ≤ 1073741823) (hT : Lib.Utf8Tabs 2 3 w) (h2 : 2 < w.heap.size) (h3 : 3 < w.heap.size) :
    Calls Tryd.prog 30 #[.pointer (some ⟨F, 0, none⟩), .slice q bs.length c] w fun e w' => e = .returned (.tuple #[]) ∧ Live w' N base F B f (b0 ++ padded f (cutB f.precP f.prec (sOf bs))) ∧ Below N w w' := by
  have HC := Lib.hid (fmtBs N base F B f b0 q c bs w h hg1 hp hc hq hs hl hwl hwl2 hT h2 h3)
  clear h hg1 hT hc hq
  go_enter Tryd.func30, Tryd.ntmps30
  go_wp2_with (fail)
  refine HC.out.mono ?_
  rintro e w2 ⟨rfl, h2, hb2⟩
  have HH := Lib.hid h2
  clear h2
  go_wp2
  go_end0
  exact ⟨rfl, HH.out, hb2⟩
theorem zzTR (F : Nat) (a : Addr) (f : Flags) (q : Option Addr) (c : Nat) (bs : List UInt8) (w : World) (hf : FmtAt w F a f) (hp : I64 f.prec) (h : Cpy w q c bs) (hl : bs.length ≤ 1048576) (hT : Lib.Utf8Tabs 2 3 w) (h2 : 2 < w.heap.size) (h3 : 3 < w.heap.size) :
    Calls Tryd.prog 27 #[.pointer (some ⟨F, 0, none⟩), .slice q bs.length c] w fun e w' => e = .returned (.slice q (cutB f.precP f.prec (sOf bs)).length c) ∧ Below w.heap.size w w' := by
  have HC := Lib.hid (truncB F a f q c bs w hf hp h hl hT h2 h3)
  clear hf h hT
  go_enter Tryd.func27, Tryd.ntmps27
  go_wp2_with (fail)
  refine HC.out.mono ?_
  rintro e w2 ⟨rfl, hb2⟩
  go_wp2
  go_ret
  exact ⟨rfl, hb2⟩
theorem zzTRS (F : Nat) (a : Addr) (f : Flags) (s : ByteArray) (w : World) (hf : FmtAt w F a f) (hp : I64 f.prec) :
    Calls Tryd.prog 28 #[.pointer (some ⟨F, 0, none⟩), .string s] w (CutS f.precP f.prec s w) := by
  have HC := Lib.hid (truncS F a f s w hf hp)
  clear hf
  go_enter Tryd.func28, Tryd.ntmps28
  go_wp2_with (fail)
  refine HC.out.mono ?_
  rintro e w2 ⟨t, rfl, ht, hb2⟩
  have HT := Lib.hid ht
  clear ht
  go_wp2
  go_ret
  exact ⟨t, rfl, HT.out, hb2⟩
end Go.Proofs.YtcfllmebcfimeaaDoor.Fm
