/- A Bytes object: what its methods give (Copy, String). -/
import Derived.Test.YtnjinknpckkioaaDoorCloneC
import Derived.Test.YtnjinknpckkioaaDoorRow2
import Derived.WalkLawsBesides
import Derived.WalkSpells
import Derived.Deep.QuietTactic
import Derived.BigQuiet
namespace Go.Proofs.YtnjinknpckkioaaDoor.Fm
open Go.ChangeShapes Go.WideShapes Go.ChangeAt Go.RowKit Go.Fmt

theorem row_conv {w : World} {p : Option Addr} {cap : Nat} {bs : List UInt8} (h : RowAt w p bs.length bs) : (convert 22 9 (.slice p bs.length cap)).run Tryd.prog w = .ok (.string ⟨bs.toArray⟩) w := by
  rcases h with ⟨rfl, _, rfl⟩ | ⟨x, rfl, _, h⟩
  · exact Go.Lib.run_convert_nil_bytes w 22 9 5 _ Tryd.underlying22 Tryd.underlying5 Tryd.underlying9
  · exact run_convert_bytes_back w 22 9 5 x cap bs Tryd.underlying22 Tryd.underlying5 Tryd.underlying9 h

/-- A Bytes object in block B whose slice reads as 'bs'. -/
structure ByAt (w : World) (B : Nat) (p : Option Addr) (cap : Nat) (bs : List UInt8) : Prop where
  cell : w.cell? ⟨B, 0, none⟩ = some (.slice p bs.length cap)
  row : RowAt w p bs.length bs
  nil : p = none → cap = 0
theorem ByAt.old {w w' : World} {B : Nat} {p : Option Addr} {cap : Nat} {bs : List UInt8} (h : ByAt w B p cap bs) (hb : Below w.heap.size w w') : ByAt w' B p cap bs :=
  ⟨(hb.cell (World.block_lt_of_cell? w _ h.cell)).trans h.cell, h.row.old hb, h.nil⟩

/-- A new Bytes object. -/
def NewBy (w : World) (bs : List UInt8) (e : Ending) (w' : World) : Prop :=
  ∃ B p cap, e = .returned (.iface 25 (.pointer (some ⟨B, 0, none⟩))) ∧ w.heap.size ≤ B ∧ B < w'.heap.size ∧ w'.cell? ⟨B, 0, none⟩ = some (.slice p bs.length cap) ∧
    w'.ownsRow w.heap.size 5 1 (.slice p bs.length cap) bs.length (bcells bs) ∧ Below w.heap.size w w'
theorem own_nil {w : World} {base n cap : Nat} {e : TypeId} {p : Option Addr} {xs : List Value} (h : w.ownsRow base e 1 (.slice p n cap) n xs) : p = none → cap = 0 := by
  intro hp
  subst hp
  obtain ⟨_, ⟨h1, _⟩ | ⟨g, c, cur, h1, _⟩⟩ := h
  · simp only [Value.slice.injEq] at h1; exact h1.2.2
  · simp only [Value.slice.injEq] at h1; cases h1.1

set_option maxHeartbeats 1000000 in
theorem bCopy (B : Nat) (p : Option Addr) (cap : Nat) (bs : List UInt8) (w : World) (h : ByAt w B p cap bs) (hl : bs.length ≤ 1073741824) : Calls Tryd.prog 13 #[.pointer (some ⟨B, 0, none⟩)] w (NewBy w bs) := by
  have hc := h.cell
  have HR := Lib.hid h.row
  have HN := h.nil
  have hI := Lib.hid info5
  have hB := World.block_lt_of_cell? w _ hc
  have hown : (w.alloc (.cells #[] 5)).ownsRow w.heap.size 5 1 (.slice (some ⟨w.heap.size, 0, none⟩) 0 0) ([] : List UInt8).length (bcells []) := World.ownsRow_lit w #[] 0 (Nat.le_refl _) (by simp) rfl
  have hb0 : Below w.heap.size w (w.alloc (.cells #[] 5)) := (Below.refl _ _).alloc (Nat.le_refl _) _
  have HR0 := Lib.hid (HR.out.old hb0)
  clear h
  go_enter Tryd.func13, Tryd.ntmps13
  go_wp2_with ((at_builtin; refine append_any rfl _ _ 22 22 rfl w.heap.size 5 Tryd.underlying22 Tryd.underlying22 hI.out (some ⟨w.heap.size, 0, none⟩) [] 0 rfl hown p cap bs rfl HR0.out HN (by simp; omega) (by simp) ?_; intro p2 cap2 w2 hown2 hle2 hcap2 hgrow2))
  simp only [List.length_nil, Nat.zero_add, List.nil_append] at hown2 ⊢
  have hb2 : Below w.heap.size w w2 := hb0.trans ((Below.refl _ _).grown hgrow2 (by simp) (fun k hk => (hown.lt k hk).1))
  have hbs2 := hb2.size
  clear hgrow2
  go_ret
  exact ⟨w2.heap.size, p2, cap2, rfl, hbs2, by simp, by simp, hown2.alloc _, hb2.alloc hbs2 _⟩

theorem bString (B : Nat) (p : Option Addr) (cap : Nat) (bs : List UInt8) (w : World) (h : ByAt w B p cap bs) : Calls Tryd.prog 30 #[.pointer (some ⟨B, 0, none⟩)] w fun e w' => e = .returned (.string ⟨bs.toArray⟩) ∧ w = w' := by
  have hc := h.cell
  have hcv := row_conv (cap := cap) h.row
  clear h
  go_enter Tryd.func30, Tryd.ntmps30
  go_wp2
  go_ret
  exact ⟨rfl, rfl⟩

theorem bName (v : Value) (w : World) : Calls Tryd.prog 31 #[v] w fun e w' => e = .returned (.string ⟨#[98, 121, 116, 101, 115]⟩) ∧ w = w' := by
  go_enter Tryd.func31, Tryd.ntmps31
  go_wp2
  go_ret
  exact ⟨rfl, rfl⟩
theorem m_name (a : Addr) (w : World) : (method 280 25 (.pointer (some a)) "TypeName").run Tryd.prog w = .ok (31, .pointer (some a)) w := by kernel_rfl
theorem m_string (a : Addr) (w : World) : (method 280 25 (.pointer (some a)) "String").run Tryd.prog w = .ok (30, .pointer (some a)) w := by kernel_rfl

/-- A law's own copy of its argument, and an object over it. -/
theorem clone_use {w w1 : World} {p : Option Addr} {bs : List UInt8} {e : Ending} (h : CopyOf w p bs e w1) :
    ∃ q c, e = .returned (.slice q bs.length c) ∧ RowAt w1 q bs.length bs ∧ (q = none → c = 0) ∧ Below w.heap.size w w1 := by
  rcases h with ⟨rfl, rfl, rfl, rfl⟩ | ⟨g, rfl, hown, hb⟩
  · exact ⟨none, 0, rfl, .inl ⟨rfl, rfl, rfl⟩, fun _ => rfl, Below.refl _ _⟩
  · exact ⟨_, _, rfl, RowAt.of_own hown, (fun h => by cases h), hb⟩
theorem boxed {w : World} {q : Option Addr} {c : Nat} {bs : List UInt8} (hr : RowAt w q bs.length bs) (hc : q = none → c = 0) : ByAt (w.alloc (.cells #[.slice q bs.length c] 29)) w.heap.size q c bs :=
  ⟨by simp, hr.old ((Below.refl _ _).alloc (Nat.le_refl _) _), hc⟩
end Go.Proofs.YtnjinknpckkioaaDoor.Fm
