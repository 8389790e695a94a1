/- An append whose source may be nil or empty. Plain; no program. -/
import Derived.Test.YtjnoodilpffbiaaFmtOne
import Derived.Laws.AppendOwnNone
namespace Go.Proofs.YtjnoodilpffbiaaFmt.Ft
open Go.RowKit

/-- The cells bs lie where a slice says; nil where there are none. -/
def SrcB (w : World) (A : Option Addr) (c : Nat) (bs : List Value) : Prop := (A = none ∧ c = 0 ∧ bs = []) ∨ ∃ ad, A = some ad ∧ ∀ j u, bs[j]? = some u → w.cell? (ad.add j) = some u
theorem SrcB.keep {w w' : World} {A : Option Addr} {c : Nat} {bs : List Value} (h : SrcB w A c bs) (hk : ∀ a v, w.cell? a = some v → w'.cell? a = some v) : SrcB w' A c bs := by
  rcases h with h | ⟨ad, h1, h2⟩
  · exact .inl h
  · exact .inr ⟨ad, h1, fun j u hu => hk _ _ (h2 j u hu)⟩
theorem run_app {P : Program} (w : World) (t ty e : TypeId) (i : TypeInfo) (z : Value) (ht : P.underlying t = some (.slice e)) (hi : P.info? e = some i) (hz : i.zero = some z) (hs : i.size = 1) (hb : i.bytes = 1) (hzc : z.cells.size = 1)
    (v : Value) (n : Nat) (xs : List Value) (hown : w.ownsRow 0 e 1 v n xs) (A : Option Addr) (c : Nat) (bs : List Value) (hA : SrcB w A c bs) (h1 : ∀ u ∈ bs, u.oneCell' = true) (hl : n + bs.length ≤ 1073741824) :
    ∃ p' cap' w', (Builtin.append_ #[t, t] ty #[v, .slice A bs.length c]).run P w = .ok (.slice p' (n + bs.length) cap') w' ∧ w'.ownsRow 0 e 1 (.slice p' (n + bs.length) cap') (n + bs.length) (xs ++ bs) ∧ w.grownBy w' v.ownBlock ∧
      ((Value.slice p' (n + bs.length) cap').ownBlock = v.ownBlock ∨ (Value.slice p' (n + bs.length) cap').ownBlock = some w.heap.size) := by
  rcases hA with ⟨rfl, rfl, rfl⟩ | ⟨ad, rfl, hc⟩
  · have hr := run_append_owned_none (P := P) (w := w) 0 t ty e i 1 ht hi v n xs hown
    obtain ⟨p, cap, rfl, _, _⟩ := own_form hown
    exact ⟨p, cap, w, hr, by simpa using hown, ⟨rfl, rfl, rfl, Nat.le_refl _, fun _ _ _ => rfl⟩, .inl rfl⟩
  · obtain ⟨v', w', hr, h2, h3, _, h5⟩ := run_append_own_at (P := P) w 0 t ty e i z 1 1 ht hi hz hs hb hzc (by decide) v n xs hown ad bs.length c bs (by simp) hc h1 (by unfold maxLen; omega) (by omega) (Nat.zero_le _)
    obtain ⟨p, cap, rfl, _, _⟩ := own_form h2
    exact ⟨p, cap, w', hr, h2, h3, h5⟩
theorem wpList_app {P : Program} {w : World} {ops : Array Oper} {rest : List Oper} {o : Oper} {a : Act} {Q : Exit → Act → World → Prop} (hgd : o.guard = none) (s x : Operand) (t : TypeId)
    (ho : o.op = .call { callee := .builtin .append, args := #[s, x], argTypes := #[t, t] }) (e : TypeId) (i : TypeInfo) (z : Value) (ht : P.underlying t = some (.slice e)) (hi : P.info? e = some i) (hz : i.zero = some z) (hs : i.size = 1) (hb : i.bytes = 1) (hzc : z.cells.size = 1)
    (v : Value) (n : Nat) (xs : List Value) (hsv : a.eval s = v) (hown : w.ownsRow 0 e 1 v n xs) (A : Option Addr) (c : Nat) (bs : List Value) (hx : a.eval x = .slice A bs.length c) (hA : SrcB w A c bs) (h1 : ∀ u ∈ bs, u.oneCell' = true) (hl : n + bs.length ≤ 1073741824)
    (h : ∀ p' cap' w', w'.ownsRow 0 e 1 (.slice p' (n + bs.length) cap') (n + bs.length) (xs ++ bs) → w.grownBy w' v.ownBlock → ((Value.slice p' (n + bs.length) cap').ownBlock = v.ownBlock ∨ (Value.slice p' (n + bs.length) cap').ownBlock = some w.heap.size) →
      wpList P ops Q rest (a.put o.dst (.slice p' (n + bs.length) cap')) w') : wpList P ops Q (o :: rest) a w := by
  obtain ⟨p', cap', w', hr, h2, h3, h4⟩ := run_app (P := P) w t o.type e i z ht hi hz hs hb hzc v n xs hown A c bs hA h1 hl
  have hfin := h p' cap' w' h2 h3 h4
  refine wpList_plain hgd fun K hK => ?_
  unfold Oper.wp execOp
  simp only [ho, resolve, invoke, builtin, Sem.run_bind, Sem.run_pure, Result.andThen_ok, List.map_toArray, List.map_cons, List.map_nil, hsv, hx, hr]
  exact hK _ _ hfin

end Go.Proofs.YtjnoodilpffbiaaFmt.Ft
