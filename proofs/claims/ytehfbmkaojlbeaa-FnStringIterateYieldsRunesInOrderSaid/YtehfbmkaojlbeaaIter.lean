/- A string's iterator: Iterate, Next, Key, Value; Equals and TypeName of Int and Char. -/
import Derived.Test.YtehfbmkaojlbeaaDecZ
import Derived.Test.YtehfbmkaojlbeaaBlk
import Derived.Laws.IdiomStrings
import Derived.RegionTactic
import Derived.BigRegion
import Derived.Deep.QuietTactic
import Derived.BigQuiet
namespace Go.Fmt
open Go.Lib
theorem decodeN_le (m b0 b1 b2 b3 : Nat) (h : 1 ≤ m) : (decodeN m b0 b1 b2 b3).2 ≤ m := by
  unfold decodeN
  split
  · exact h
  split
  · split <;> (simp only; omega)
  split
  · split <;> (simp only; omega)
  split
  · split <;> (simp only; omega)
  exact h
theorem width_le (s : ByteArray) (pos : Nat) (h : pos < s.size) : pos + (Utf8.decode s pos).2 ≤ s.size := by
  rw [decode_at]
  have := decodeN_le (s.size - pos) (s.get! pos).toNat (s.get! (pos + 1)).toNat (s.get! (pos + 2)).toNat (s.get! (pos + 3)).toNat (by omega)
  omega
theorem width_pos (s : ByteArray) (pos : Nat) (h : pos < s.size) : 1 ≤ (Utf8.decode s pos).2 := Lib.decode_width_pos s pos h
/-- The runes of a string from 'p' on. -/
def runesL (s : ByteArray) : Nat → Nat → List Nat
  | 0, _ => []
  | f + 1, p => if p < s.size then (Utf8.decode s p).1 :: runesL s f (p + (Utf8.decode s p).2) else []
theorem runesFrom_eq (s : ByteArray) : ∀ (f p : Nat) (acc : Array Value), (Conv.runesFrom s f p acc).toList = acc.toList ++ (runesL s f p).map fun r : Nat => Value.int .i32 ((r : Nat) : Int)
  | 0, _, acc => by simp [Conv.runesFrom, runesL]
  | f + 1, p, acc => by
    rw [Conv.runesFrom, runesL]
    split
    · simp only
      rw [runesFrom_eq s f]
      simp
    · simp
theorem runesL_length (s : ByteArray) : ∀ (f p : Nat), (runesL s f p).length ≤ f
  | 0, _ => by simp [runesL]
  | f + 1, p => by
    rw [runesL]
    split
    · have := runesL_length s f (p + (Utf8.decode s p).2); simp; omega
    · simp
end Go.Fmt
namespace Go.Proofs.Ytehfbmkaojlbeaa.Fm
open Go.ChangeShapes Go.WideShapes Go.ChangeAt Go.RowKit Go.Fmt Go.Blk

/-- An iterator in block I over the runes rs in block G, i of them handed out. -/
def It (w : World) (I G cap : Nat) (rs : List Nat) (i : Nat) : Prop := Blk w I 48 [.slice (some ⟨G, 0, none⟩) rs.length cap, .int .i64 i, .int .i64 rs.length] ∧ ∀ j (hj : j < rs.length), w.cell? ⟨G, j, none⟩ = some (.int .i32 ((rs[j] : Nat) : Int))
theorem It.old {w w' : World} {I G cap i : Nat} {rs : List Nat} (h : It w I G cap rs i) (hb : Below w.heap.size w w') : It w' I G cap rs i :=
  ⟨h.1.old hb, fun j hj => (hb.cell (World.block_lt_of_cell? w _ (h.2 j hj))).trans (h.2 j hj)⟩

theorem it_new (N0 B : Nat) (w : World) (v : Value) (arr : Array Value) (cap : Nat) (rs : List Nat) (hB : B < w.heap.size) (hN : N0 ≤ B) (harr : ∀ j (hj : j < rs.length), arr[j]? = some (.int .i32 ((rs[j] : Nat) : Int))) :
    It ((((w.setCell ⟨B, 1, none⟩ v).alloc (.cells arr 21)).alloc (.cells #[.slice (some ⟨w.heap.size, 0, none⟩) rs.length cap, .int .i64 0, .int .i64 rs.length] 48)).drew.drew) (w.heap.size + 1) w.heap.size cap rs 0 ∧
    Below N0 w ((((w.setCell ⟨B, 1, none⟩ v).alloc (.cells arr 21)).alloc (.cells #[.slice (some ⟨w.heap.size, 0, none⟩) rs.length cap, .int .i64 0, .int .i64 rs.length] 48)).drew.drew) := by
  have s1 : (w.setCell ⟨B, 1, none⟩ v).heap.size = w.heap.size := by simp
  have s2 : ((w.setCell ⟨B, 1, none⟩ v).alloc (.cells arr 21)).heap.size = w.heap.size + 1 := by simp
  have h1 := blk_alloc ((w.setCell ⟨B, 1, none⟩ v).alloc (.cells arr 21)) [.slice (some ⟨w.heap.size, 0, none⟩) rs.length cap, .int .i64 0, .int .i64 rs.length] 48
  rw [s2] at h1
  have h2 := blk_alloc (w.setCell ⟨B, 1, none⟩ v) arr.toList 21
  rw [s1] at h2
  have h3 := h2.old ((Below.refl _ _).alloc (Nat.le_refl _) (.cells #[.slice (some ⟨w.heap.size, 0, none⟩) rs.length cap, .int .i64 0, .int .i64 rs.length] 48))
  have hb : Below N0 w (((w.setCell ⟨B, 1, none⟩ v).alloc (.cells arr 21)).alloc (.cells #[.slice (some ⟨w.heap.size, 0, none⟩) rs.length cap, .int .i64 0, .int .i64 rs.length] 48)) :=
    (((Below.refl N0 w).setCell hN v).alloc (by rw [s1]; omega) _).alloc (by rw [s2]; omega) _
  refine ⟨⟨h1, fun j hj => ?_⟩, ⟨hb.os, hb.tape, hb.output, hb.size, hb.block⟩⟩
  have h4 := h3.cell? j
  rw [Array.getElem?_toList, harr j hj] at h4
  exact h4
/-- What Iterate gives. -/
def NewIt (N0 : Nat) (s : ByteArray) (w : World) (e : Ending) (w' : World) : Prop :=
  ∃ I G cap, e = .returned (.iface 46 (.pointer (some ⟨I, 0, none⟩))) ∧ It w' I G cap (runesL s s.size 0) 0 ∧ N0 ≤ I ∧ I ≠ G ∧ Below N0 w w'
set_option maxRecDepth 100000 in
set_option maxHeartbeats 2000000 in
theorem iterate (N0 B : Nat) (s : ByteArray) (w : World) (hB : Blk w B 28 [.string s, .slice none 0 0]) (hs : s.size ≤ 1048576) (hN : N0 ≤ B) :
    Calls Try.prog 5 #[.pointer (some ⟨B, 0, none⟩)] w (NewIt N0 s w) := by
  have c0 : w.cell? ⟨B, 0, none⟩ = some (.string s) := hB.cell? 0
  have c1 : w.cell? ⟨B, 1, none⟩ = some (.slice none 0 0) := hB.cell? 1
  have f1 := hB.frz 1
  have hBw := hB.lt
  have he : ∀ w, (binOp .eql 26 (.slice none 0 0) (.slice none 0 0)).run Try.prog w = .ok (.bool true) w := fun w => rfl
  have hlen := congrArg List.length (runesFrom_eq s s.size 0 #[])
  have hrl := runesL_length s s.size 0
  simp only [List.length_append, List.length_map, List.length_nil, Nat.zero_add, Array.length_toList] at hlen
  have hcv := run_runes_of_string (P := Try.prog) w 9 26 21 s Try.underlying9 Try.underlying26 Try.underlying21 (by have : (Conv.runesFrom s s.size 0 #[]).size = (runesL s s.size 0).length := (by simpa using hlen); omega)
  obtain ⟨rs, hrs⟩ : ∃ rs, rs = runesL s s.size 0 := ⟨_, rfl⟩
  obtain ⟨cap, hcap⟩ : ∃ cap, cap = grownCap w (Conv.runesFrom s s.size 0 #[]).size 0 21 := ⟨_, rfl⟩
  obtain ⟨arr, harr⟩ : ∃ arr, arr = Conv.runesFrom s s.size 0 #[] ++ Array.replicate (grownCap w (Conv.runesFrom s s.size 0 #[]).size 0 21 - (Conv.runesFrom s s.size 0 #[]).size) (.int .i32 0) := ⟨_, rfl⟩
  have hsz : (Conv.runesFrom s s.size 0 #[]).size = rs.length := by rw [hrs]; simpa using hlen
  have harr2 : ∀ j (hj : j < rs.length), arr[j]? = some (.int .i32 ((rs[j] : Nat) : Int)) := by
    intro j hj
    rw [harr, Array.getElem?_append_left (by rw [hsz]; exact hj), ← Array.getElem?_toList, runesFrom_eq]
    subst hrs
    simp [hj]
  rw [← harr, ← hcap, hsz] at hcv
  unfold NewIt
  rw [← hrs]
  have HARR := Lib.hid harr2
  have HB := Lib.hid hB
  clear hlen hrl hrs hcap harr hsz harr2 hB
  go_enter Try.func5, Try.ntmps5
  go_wp2
  go_region
  all_goals
    go_wp2
    go_ret
    have hnew := it_new N0 B w (.slice (some ⟨w.heap.size, 0, none⟩) rs.length cap) arr cap rs hBw hN HARR.out
    exact ⟨w.heap.size + 1, w.heap.size, cap, rfl, hnew.1, by omega, by omega, hnew.2⟩

theorem m_next (a : Addr) (w : World) : (method 189 46 (.pointer (some a)) "Next").run Try.prog w = .ok (49, .pointer (some a)) w := by kernel_rfl
theorem m_key (a : Addr) (w : World) : (method 189 46 (.pointer (some a)) "Key").run Try.prog w = .ok (48, .pointer (some a)) w := by kernel_rfl
theorem m_val (a : Addr) (w : World) : (method 189 46 (.pointer (some a)) "Value").run Try.prog w = .ok (52, .pointer (some a)) w := by kernel_rfl
theorem m_itn (a : Addr) (w : World) : (method 189 40 (.pointer (some a)) "TypeName").run Try.prog w = .ok (37, .pointer (some a)) w := by kernel_rfl
theorem m_ieq (a : Addr) (w : World) : (method 189 40 (.pointer (some a)) "Equals").run Try.prog w = .ok (31, .pointer (some a)) w := by kernel_rfl
theorem m_ctn (a : Addr) (w : World) : (method 189 43 (.pointer (some a)) "TypeName").run Try.prog w = .ok (43, .pointer (some a)) w := by kernel_rfl
theorem m_ceq (a : Addr) (w : World) : (method 189 43 (.pointer (some a)) "Equals").run Try.prog w = .ok (40, .pointer (some a)) w := by kernel_rfl
theorem ta_int (a : Addr) (w : World) : (Instr.typeAssert (.iface 40 (.pointer (some a))) 36 40 true).run Try.prog w = .ok (.tuple #[.pointer (some a), .bool true]) w := by kernel_rfl
theorem ta_ch (a : Addr) (w : World) : (Instr.typeAssert (.iface 43 (.pointer (some a))) 36 43 true).run Try.prog w = .ok (.tuple #[.pointer (some a), .bool true]) w := by kernel_rfl
theorem iName (v : Value) (w : World) : Calls Try.prog 37 #[v] w fun e w' => e = .returned (.string ⟨#[105, 110, 116]⟩) ∧ w = w' := by
  go_enter Try.func37, Try.ntmps37
  go_wp2
  go_ret
  exact ⟨rfl, rfl⟩
theorem cName (v : Value) (w : World) : Calls Try.prog 43 #[v] w fun e w' => e = .returned (.string ⟨#[99, 104, 97, 114]⟩) ∧ w = w' := by
  go_enter Try.func43, Try.ntmps43
  go_wp2
  go_ret
  exact ⟨rfl, rfl⟩
theorem iEq (x y : Nat) (v : Int) (w : World) (hx : w.cell? ⟨x, 0, none⟩ = some (.int .i64 v)) (hy : w.cell? ⟨y, 0, none⟩ = some (.int .i64 v)) : Calls Try.prog 31 #[.pointer (some ⟨x, 0, none⟩), .iface 40 (.pointer (some ⟨y, 0, none⟩))] w fun e w' => e = .returned (.bool true) ∧ ∃ n, w' = w.drewN n := by
  have ta := ta_int
  go_enter Try.func31, Try.ntmps31
  go_wp2
  go_quiet (fail)
  go_wp2
  go_ret
  exact ⟨by simp, _, rfl⟩
theorem cEq (x y : Nat) (v : Int) (w : World) (hx : w.cell? ⟨x, 0, none⟩ = some (.int .i32 v)) (hy : w.cell? ⟨y, 0, none⟩ = some (.int .i32 v)) : Calls Try.prog 40 #[.pointer (some ⟨x, 0, none⟩), .iface 43 (.pointer (some ⟨y, 0, none⟩))] w fun e w' => e = .returned (.bool true) ∧ ∃ n, w' = w.drewN n := by
  have ta := ta_ch
  go_enter Try.func40, Try.ntmps40
  go_wp2
  go_quiet (fail)
  go_wp2
  go_ret
  exact ⟨by simp, _, rfl⟩

set_option maxHeartbeats 1000000 in
theorem next (N0 I G cap i : Nat) (rs : List Nat) (w : World) (h : It w I G cap rs i) (hN : N0 ≤ I) (hIG : I ≠ G) (hi : i ≤ rs.length) (hl : rs.length ≤ 1048576) :
    Calls Try.prog 49 #[.pointer (some ⟨I, 0, none⟩)] w fun e w' => e = .returned (.bool (decide ((i : Int) + 1 ≤ (rs.length : Int)))) ∧ It w' I G cap rs (i + 1) ∧ Below N0 w w' := by
  have c1 : w.cell? ⟨I, 1, none⟩ = some (.int .i64 i) := h.1.cell? 1
  have c2 : w.cell? ⟨I, 2, none⟩ = some (.int .i64 rs.length) := h.1.cell? 2
  have f1 := h.1.frz 1
  have H := Lib.hid h
  clear h
  go_enter Try.func49, Try.ntmps49
  go_wp2
  go_quiet (fail)
  go_wp2
  go_ret
  have h1 := H.out.1.set 1 (.int .i64 ((i : Int) + 1))
  have hb : Below N0 w (w.setCell ⟨I, 1, none⟩ (.int .i64 ((i : Int) + 1))) := (Below.refl N0 w).setCell hN _
  refine ⟨rfl, ⟨?_, fun j hj => ?_⟩, ⟨hb.os, hb.tape, hb.output, hb.size, hb.block⟩⟩
  · exact h1
  · exact (World.cell?_setCell_other _ _ _ _ (by intro e; exact hIG (congrArg Addr.block e))).trans (H.out.2 j hj)

theorem key (I G cap i : Nat) (rs : List Nat) (w : World) (h : It w I G cap rs (i + 1)) (hl : i ≤ 1048576) :
    Calls Try.prog 48 #[.pointer (some ⟨I, 0, none⟩)] w fun e w' => ∃ X, e = .returned (.iface 40 (.pointer (some ⟨X, 0, none⟩))) ∧ w.heap.size ≤ X ∧ w'.cell? ⟨X, 0, none⟩ = some (.int .i64 i) ∧ Below w.heap.size w w' := by
  have c1 : w.cell? ⟨I, 1, none⟩ = some (.int .i64 ((i : Int) + 1)) := h.1.cell? 1
  have e1 : (i : Int) + 1 - 1 = i := by omega
  clear h
  go_enter Try.func48, Try.ntmps48
  go_wp2
  go_ret
  exact ⟨w.heap.size, rfl, Nat.le_refl _, (blk_alloc w [.int .i64 (i : Int)] 42).cell? 0, (Below.refl _ _).alloc (Nat.le_refl _) _⟩

set_option maxHeartbeats 1000000 in
theorem value (I G cap i : Nat) (rs : List Nat) (w : World) (h : It w I G cap rs (i + 1)) (hi : i < rs.length) (hl : rs.length ≤ 1048576) :
    Calls Try.prog 52 #[.pointer (some ⟨I, 0, none⟩)] w fun e w' => ∃ X, e = .returned (.iface 43 (.pointer (some ⟨X, 0, none⟩))) ∧ w.heap.size ≤ X ∧ w'.cell? ⟨X, 0, none⟩ = some (.int .i32 ((rs[i] : Nat) : Int)) ∧ Below w.heap.size w w' := by
  have c0 : w.cell? ⟨I, 0, none⟩ = some (.slice (some ⟨G, 0, none⟩) rs.length cap) := h.1.cell? 0
  have c1 : w.cell? ⟨I, 1, none⟩ = some (.int .i64 ((i : Int) + 1)) := h.1.cell? 1
  have cv := h.2 i hi
  clear h
  generalize rs[i] = r at *
  have e1 : (i : Int) + 1 - 1 = i := by omega
  have s1 : (0 : Int) ≤ (i : Int) := by omega
  have s2 : (i : Int) < (rs.length : Int) := by omega
  go_enter Try.func52, Try.ntmps52
  go_wp2
  go_region
  all_goals
    go_wp2
    go_ret
    have hb : Below w.heap.size w (w.alloc (.cells #[.int .i32 (r : Int)] 45)) := (Below.refl _ _).alloc (Nat.le_refl _) _
    exact ⟨w.heap.size, rfl, Nat.le_refl _, (blk_alloc w [.int .i32 (r : Int)] 45).cell? 0, ⟨hb.os, hb.tape, hb.output, hb.size, hb.block⟩⟩
end Go.Proofs.Ytehfbmkaojlbeaa.Fm
