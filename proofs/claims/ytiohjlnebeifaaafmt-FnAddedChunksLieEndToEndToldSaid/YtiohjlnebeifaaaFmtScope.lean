/- The compiler's stack of scopes: addInstruction, currentInstructions. -/
import Derived.Test.YtiohjlnebeifaaaFmtScL
import Derived.Test.YtiohjlnebeifaaaFmtFrame
import Derived.Test.YtiohjlnebeifaaaFmtCut
import Derived.LoopTactic
import Derived.Deep.LoopGhost
import Derived.RegionTactic
import Derived.WalkLawsBesides
import Derived.WalkSpells
import Derived.Outline
import Derived.KernelRfl
import Derived.Lib.Hide
import Derived.Deep.QuietTactic
import Derived.BigQuiet
import Derived.Deep.AppendLies
import Derived.Deep.RegionHeld3
import Derived.OwnWalk
namespace Go.Proofs.YtiohjlnebeifaaaFmt.Sc
open Go.ChangeShapes Go.WideShapes Go.ChangeAt Go.RowKit Go.Nest

theorem info8 : (Tryf.prog.info? 5).map (fun i => (i.zero, i.size, i.bytes)) = some (some (.int .u8 0), 1, 1) := by kernel_rfl

set_option maxHeartbeats 1000000 in
theorem curI (C g n cap : Nat) (v : Value) (w : World) (h7 : w.cell? ⟨C, 7, none⟩ = some (.slice (some ⟨g, 0, none⟩) (n + 1) cap)) (h8 : w.cell? ⟨C, 8, none⟩ = some (.int .i64 n)) (hn : n ≤ 1048576)
    (hv : w.cell? ⟨g, n * 3, none⟩ = some v) :
    Calls Tryf.prog 28 #[.pointer (some ⟨C, 0, none⟩)] w fun e w' => e = .returned v ∧ ∃ k, w' = w.drewN k := by
  have s1 : (0 : Int) ≤ (n : Int) := by omega
  have s2 : (n : Int) < (n : Int) + 1 := by omega
  have s3 : (n : Int) < ((n + 1 : Nat) : Int) := by omega
  go_enter Tryf.func28, Tryf.ntmps28
  go_wp2
  go_quiet (fail)
  go_wp2
  go_ret
  exact ⟨rfl, _, rfl⟩
set_option maxHeartbeats 1000000 in
theorem curM (C g n cap : Nat) (v : Value) (w : World) (h7 : w.cell? ⟨C, 7, none⟩ = some (.slice (some ⟨g, 0, none⟩) (n + 1) cap)) (h8 : w.cell? ⟨C, 8, none⟩ = some (.int .i64 n)) (hn : n ≤ 1048576)
    (hv : w.cell? ⟨g, n * 3 + 2, none⟩ = some v) :
    Calls Tryf.prog 34 #[.pointer (some ⟨C, 0, none⟩)] w fun e w' => e = .returned v ∧ ∃ k, w' = w.drewN k := by
  have s1 : (0 : Int) ≤ (n : Int) := by omega
  have s2 : (n : Int) < (n : Int) + 1 := by omega
  have s3 : (n : Int) < ((n + 1 : Nat) : Int) := by omega
  go_enter Tryf.func34, Tryf.ntmps34
  go_wp2
  go_quiet (fail)
  go_wp2
  go_ret
  exact ⟨rfl, _, rfl⟩

/-- The cells bs lie where a slice says; nil where there are none. -/
def SrcB (w : World) (A : Option Addr) (c : Nat) (bs : List Value) : Prop := (A = none ∧ c = 0 ∧ bs = []) ∨ ∃ ad, A = some ad ∧ ∀ j u, bs[j]? = some u → w.cell? (ad.add j) = some u
theorem SrcB.keep {w w' : World} {A : Option Addr} {c : Nat} {bs : List Value} (h : SrcB w A c bs) (hk : ∀ a v, w.cell? a = some v → w'.cell? a = some v) : SrcB w' A c bs := by
  rcases h with h | ⟨ad, h1, h2⟩
  · exact .inl h
  · exact .inr ⟨ad, h1, fun j u hu => hk _ _ (h2 j u hu)⟩
theorem run_app {P : Program} (w : World) (t ty e : TypeId) (i : TypeInfo) (z : Value) (ht : P.underlying t = some (.slice e)) (hi : P.info? e = some i) (hz : i.zero = some z) (hs : i.size = 1) (hb : i.bytes = 1) (hzc : z.cells.size = 1)
    (v : Value) (n : Nat) (xs : List Value) (hown : w.ownsRow 0 e 1 v n xs) (A : Option Addr) (c : Nat) (bs : List Value) (hA : SrcB w A c bs) (h1 : ∀ u ∈ bs, u.oneCell' = true) (hl : n + bs.length ≤ 1073741824) :
    ∃ p' cap' w', (Builtin.append_ #[t, t] ty #[v, .slice A bs.length c]).run P w = .ok (.slice p' (n + bs.length) cap') w' ∧ w'.ownsRow 0 e 1 (.slice p' (n + bs.length) cap') (n + bs.length) (xs ++ bs) ∧ w.grownBy w' v.ownBlock ∧
      ((Value.slice p' (n + bs.length) cap').ownBlock = v.ownBlock ∨ (Value.slice p' (n + bs.length) cap').ownBlock = some w.heap.size) := by
  rcases hA with ⟨rfl, rfl, rfl⟩ | ⟨ad, rfl, hc⟩
  · have hr := run_append_owned_none (P := P) (w := w) 0 t ty e i 1 ht hi v n xs hown
    obtain ⟨p, cap, rfl, _, _⟩ := row_form hown
    exact ⟨p, cap, w, hr, by simpa using hown, ⟨rfl, rfl, rfl, Nat.le_refl _, fun _ _ _ => rfl⟩, .inl rfl⟩
  · obtain ⟨v', w', hr, h2, h3, _, h5⟩ := run_append_own_at (P := P) w 0 t ty e i z 1 1 ht hi hz hs hb hzc (by decide) v n xs hown ad bs.length c bs (by simp) hc h1 (by unfold maxLen; omega) (by omega) (Nat.zero_le _)
    obtain ⟨p, cap, rfl, _, _⟩ := row_form h2
    exact ⟨p, cap, w', hr, h2, h3, h5⟩
theorem step_app {P : Program} {w : World} {ops : Array Oper} {o : Oper} {a : Act} {K : Act → World → Prop} {Q : Exit → Act → World → Prop} {E : Prop} (hgd : o.guard = none) (s x : Operand) (t : TypeId)
    (ho : o.op = .call { callee := .builtin .append, args := #[s, x], argTypes := #[t, t] }) (e : TypeId) (i : TypeInfo) (z : Value) (ht : P.underlying t = some (.slice e)) (hi : P.info? e = some i) (hz : i.zero = some z) (hs : i.size = 1) (hb : i.bytes = 1) (hzc : z.cells.size = 1)
    (v : Value) (n : Nat) (xs : List Value) (hsv : a.eval s = v) (hown : w.ownsRow 0 e 1 v n xs) (A : Option Addr) (c : Nat) (bs : List Value) (hx : a.eval x = .slice A bs.length c) (hA : SrcB w A c bs) (h1 : ∀ u ∈ bs, u.oneCell' = true) (hl : n + bs.length ≤ 1073741824)
    (h : ∀ p' cap' w', w'.ownsRow 0 e 1 (.slice p' (n + bs.length) cap') (n + bs.length) (xs ++ bs) → w.grownBy w' v.ownBlock → ((Value.slice p' (n + bs.length) cap').ownBlock = v.ownBlock ∨ (Value.slice p' (n + bs.length) cap').ownBlock = some w.heap.size) →
      K (a.put o.dst (.slice p' (n + bs.length) cap')) w') : if Region.wanted o (yielded ops a.tmps) = true then Oper.wp P o a w K Q else E := by
  have hw : Region.wanted o (yielded ops a.tmps) = true := by simp [Region.wanted, hgd]
  rw [if_pos hw]
  obtain ⟨p', cap', w', hr, h2, h3, h4⟩ := run_app (P := P) w t o.type e i z ht hi hz hs hb hzc v n xs hown A c bs hA h1 hl
  unfold Oper.wp execOp
  simp only [ho, resolve, invoke, builtin, Sem.run_bind, Sem.run_pure, Result.andThen_ok, List.map_toArray, List.map_cons, List.map_nil, hsv, hx, hr]
  exact h p' cap' w' h2 h3 h4
set_option maxRecDepth 100000 in
set_option maxHeartbeats 1000000 in
theorem addI (F : Nat → Prop) (C : Nat) (ts : List Nat) (init : List It) (s : It) (A : Option Addr) (c : Nat) (bs : List Value) (w : World) (h : CompS w F C ts init s) (hn : init.length ≤ 1048576) (hl : s.xs.length + bs.length ≤ 1048576)
    (hnews : SrcB w A c bs) (h1 : ∀ u ∈ bs, u.oneCell' = true) :
    Calls Tryf.prog 29 #[.pointer (some ⟨C, 0, none⟩), .slice A bs.length c] w fun e w' => e = .returned (.int .i64 s.xs.length) ∧ ∃ F' v', CompS w' F' C ts init ⟨v', s.ex, s.xs ++ bs⟩ ∧ Turned (fun k => F k ∨ k = C) w w' ∧ Ch F F' w := by
  obtain ⟨g, cap, h7, hN⟩ := h.sc
  have h8 := h.idx
  obtain ⟨hv, hvf⟩ := nest_top_v hN
  obtain ⟨p, cp, hsv, hsc1, hsc2⟩ := row_form hN.last
  have hown := hN.last
  have hgC : g ≠ C := fun e => h.cF (e ▸ hN.foot g rfl)
  have hsC : s.v.ownBlock ≠ some C := fun e => h.cF ((hN.feet s (by simp) C e).1)
  have hsg : s.v.ownBlock ≠ some g := fun e => (hN.feet s (by simp) g e).2 rfl
  rw [hsv] at hv hown hsC hsg
  obtain ⟨i8, hi, hz0, hz1, hz2⟩ := info_parts info8
  have HI := Lib.hid hi
  have HI0 := Lib.hid hz0
  have HI1 := Lib.hid hz1
  have HI2 := Lib.hid hz2
  have HC := Lib.hid h
  have HN := Lib.hid hN
  have HO := Lib.hid hown
  have HSV := Lib.hid hsv
  have HNW := Lib.hid hnews
  have H1 := Lib.hid h1
  have HCU := Lib.hid (curI C g init.length cap (.slice p s.xs.length cp) · · · hn ·)
  have HGW : Hid (g < w.heap.size) := Lib.hid (row_lt hN.row rfl)
  clear h hN hown hi hz0 hz1 hz2 hsv hnews h1
  have hn0 : (0 : Int) ≤ (init.length : Int) := by omega
  have hn1 : (init.length : Int) < (init.length : Int) + 1 := by omega
  go_enter Tryf.func29, Tryf.ntmps29
  go_wp2_with ((go_at_call 28; refine (HCU.out _ h7 h8 hv).mono ?_; rintro e w' ⟨rfl, k0, rfl⟩))
  have hgC' : C ≠ g := Ne.symm hgC
  go_region_held3 (fun w' => w'.cell? ⟨C, 7, none⟩ = some (.slice (some ⟨g, 0, none⟩) (init.length + 1) cap) ∧ w'.cell? ⟨C, 8, none⟩ = some (.int .i64 init.length))
    (first | go_keep | (go_split_ands; exact ⟨(hgrow5.cell_far ⟨C, 7, none⟩ HC.out.cw (Ne.symm hsC)).trans h7, (hgrow5.cell_far ⟨C, 8, none⟩ HC.out.cw (Ne.symm hsC)).trans h8⟩))
    (first | (go_at_call 28; refine (HCU.out _ (by exact h7) (by exact h8) (by exact hv)).mono ?_; rintro e w' ⟨rfl, k1, rfl⟩) | (refine step_app (by rfl) _ _ 22 (by rfl) 5 i8 (.int .u8 0) Tryf.underlying22 HI.out HI0.out HI1.out HI2.out rfl (.slice p s.xs.length cp) s.xs.length s.xs (by rfl) HO.out A c bs (by rfl) HNW.out H1.out (by omega) ?_; intro p5 cap5 w5 hown5 hgrow5 hat5; have f5 : w5.frozen? ⟨g, init.length * 3, none⟩ = false := (hgrow5.frozen_far ⟨g, init.length * 3, none⟩ HGW.out (Ne.symm hsg)).trans hvf; have c5 : w5.cell? ⟨g, init.length * 3, none⟩ = some (.slice p s.xs.length cp) := (hgrow5.cell_far ⟨g, init.length * 3, none⟩ HGW.out (Ne.symm hsg)).trans hv))
  go_wp2
  go_ret
  have hg := Go.Fmt.grown_drewN hgrow5
  have hrow : w5.ownsRow 0 5 1 (.slice p5 (s.xs.length + bs.length) cap5) (s.xs ++ bs).length (s.xs ++ bs) := by rw [List.length_append]; exact hown5
  have hat : (Value.slice p5 (s.xs.length + bs.length) cap5).ownBlock = s.v.ownBlock ∨ (Value.slice p5 (s.xs.length + bs.length) cap5).ownBlock = some w.heap.size := by rw [HSV.out]; exact hat5
  rw [← HSV.out] at hg
  obtain ⟨F', a1, a2, a3⟩ := HC.out.edit h7 hg hrow hat
  exact ⟨rfl, F', _, a1, a2, a3⟩
end Go.Proofs.YtiohjlnebeifaaaFmt.Sc
