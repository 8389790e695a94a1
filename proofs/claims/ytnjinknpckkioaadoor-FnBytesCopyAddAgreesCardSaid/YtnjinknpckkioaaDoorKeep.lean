/- An append that leaves the old slice's elements as they were. Plain; no program. -/
import Derived.Test.YtnjinknpckkioaaDoorRow2
namespace Go.Fmt
open Go.RowKit

theorem own_drew_alloc {w : World} {base e n : Nat} {v : Value} {xs : List Value} (h : w.ownsRow base e 1 v n xs) (o : Obj) : (w.drew.alloc o).ownsRow base e 1 v n xs :=
  h.kept ⟨rfl, rfl, rfl, by simp, fun k hk _ => Below.heap_alloc w.drew o k hk⟩ (row := none) (by cases hv : v.ownBlock <;> simp)

theorem keep_of_run {P : Program} {w w' : World} {base : Nat} {t ty e : TypeId} {i : TypeInfo} {z v' : Value} (ht : P.underlying t = some (.slice e)) (hi : P.info? e = some i) (hz : i.zero = some z) (hs : i.size = 1) (hby : i.bytes = 1)
    {p : Option Addr} {n cap : Nat} {xs : List Value} (hown : w.ownsRow base e 1 (.slice p n cap) n xs) (a : Addr) (m c : Nat) (news : List Value) (hl : news.length = m) (hnews : ∀ j u, news[j]? = some u → w.cell? (a.add j) = some u) (h1 : ∀ u ∈ news, u.oneCell' = true)
    (h63 : n + m ≤ 140737488355328) (hr : (Builtin.append_ #[t, t] ty #[.slice p n cap, .slice (some a) m c]).run P w = .ok v' w') : w'.ownsRow base e 1 (.slice p n cap) n xs := by
  rcases hown.2 with ⟨hv, hn⟩ | ⟨g, cap', cur, hv, hbg, hg, hnc, hcm, hcs, htake⟩
  · exact ⟨hown.1, .inl ⟨hv, hn⟩⟩
  · simp only [Value.slice.injEq, true_and] at hv
    obtain ⟨rfl, rfl⟩ := hv
    simp only [Nat.mul_one] at hcs htake
    by_cases hroom : n + m ≤ cap
    · have hr2 := run_append_room (P := P) w t ty e i ht hi g n cap cur hg a m c news (by rw [hs, Nat.mul_one]; exact hl) hnews h1 hroom (by rw [hs, Nat.mul_one]; omega)
      rw [hr] at hr2
      injection hr2 with _ hw
      subst hw
      refine ⟨hown.1, .inr ⟨g, cap, _, rfl, hbg, setRow_heap w g cur _ e _ hg, hnc, hcm, ?_, ?_⟩⟩
      · simp [hs]; omega
      · simp only [hs, Nat.mul_one, List.append_assoc]
        have hlt : (List.take n cur.toList).length = n := by simp; omega
        rw [List.take_append_of_le_length (by omega), List.take_of_length_le (by omega)]
        exact htake
    · have holds : ∀ j u, xs[j]? = some u → w.cell? ((⟨g, 0, none⟩ : Addr).add j) = some u := hown.cells (g := g) rfl
      have hr2 := run_append_grow (P := P) w t ty e i z ht hi hz ⟨g, 0, none⟩ n cap xs (by rw [hs]; exact hown.1) holds a m c news (by rw [hs, Nat.mul_one]; exact hl) hnews (by omega) (by omega) (growslice_fits (by omega) (by rw [hby]; omega))
      rw [hr] at hr2
      injection hr2 with _ hw
      subst hw
      exact own_drew_alloc hown _

/-- 'append(b, c..)' at whatever slice of bytes; what b held stays. -/
theorem append_keep {P : Program} {ops : Array Oper} {rest : List Oper} {o : Oper} {a : Act} {Q : Exit → Act → World → Prop} {w : World} (hgd : o.guard = none) (sl x : Operand) (t u : TypeId)
    (ho : o.op = .call { callee := .builtin .append, args := #[sl, x], argTypes := #[t, u] })
    (base : Nat) (e : TypeId) (ht : P.underlying t = some (.slice e)) (hu : P.underlying u = some (.slice e)) (hinfo : (P.info? e).map (fun i => (i.zero, i.size, i.bytes)) = some (some (.int .u8 0), 1, 1))
    (p : Option Addr) (bs : List UInt8) (cap : Nat) (hs : a.eval sl = .slice p bs.length cap) (hown : w.ownsRow base e 1 (.slice p bs.length cap) bs.length (bcells bs))
    (q : Option Addr) (c : Nat) (cs : List UInt8) (hx : a.eval x = .slice q cs.length c) (hr : RowAt w q cs.length cs) (hc : q = none → c = 0)
    (hlen : bs.length + cs.length ≤ 140737488355328) (hbase : base ≤ w.heap.size)
    (h : ∀ p' cap' w', w'.ownsRow base e 1 (.slice p' (bs.length + cs.length) cap') (bs ++ cs).length (bcells (bs ++ cs)) → bs.length + cs.length ≤ cap' → cap' ≤ maxLen → w.grownBy w' (Value.slice p bs.length cap).ownBlock → w'.ownsRow base e 1 (.slice p bs.length cap) bs.length (bcells bs) → wpList P ops Q rest (a.put o.dst (.slice p' (bs.length + cs.length) cap')) w') :
    wpList P ops Q (o :: rest) a w := by
  rcases hr with ⟨rfl, _, rfl⟩ | ⟨y, rfl, _, hy⟩
  · obtain rfl := hc rfl
    refine append_none2 hgd sl x t u ho base e ht hu hinfo p bs.length cap _ hs hown hx ?_
    obtain ⟨p', cap', e1, h4, h5⟩ := ownsRow_form hown
    simp only [Value.slice.injEq] at e1
    obtain ⟨rfl, _, rfl⟩ := e1
    exact h p cap w (by simpa using hown) (by simpa using h4) h5 ⟨rfl, rfl, rfl, Nat.le_refl _, fun _ _ _ => rfl⟩ hown
  · obtain ⟨i, hi, h1, h2, h3⟩ := info_parts hinfo
    have h1c : ∀ u ∈ bcells cs, u.oneCell' = true := by
      intro u hu
      obtain ⟨b, _, rfl⟩ := List.mem_map.1 hu
      rfl
    have hnews := RowAt.cells hy (l := cs.length) rfl
    obtain ⟨v', w', hr, hown', hg, _⟩ := run_append_own (P := P) w base t o.type e i (.int .u8 0) 1 1 ht hi h1 h2 h3 rfl (by decide) _ bs.length (bcells bs) hown y cs.length c (bcells cs) (by simp [bcells_length]) hnews h1c (by unfold maxLen; omega) (by omega) hbase
    have hk := keep_of_run ht hi h1 h2 h3 hown y cs.length c (bcells cs) (bcells_length cs) hnews h1c hlen hr
    rw [← append_types w t u o.type e e i _ _ _ _ ht hu hi] at hr
    obtain ⟨p', cap', rfl, h4, h5⟩ := ownsRow_form hown'
    have e1 : (bs ++ cs).length = bs.length + cs.length := List.length_append
    have hfin := h p' cap' w' (by rw [e1, bcells_append]; exact hown') h4 h5 hg hk
    refine wpList_plain hgd fun K hK => ?_
    unfold Oper.wp execOp
    simp only [ho, resolve, invoke, builtin, Sem.run_bind, Sem.run_pure, Result.andThen_ok, List.map_toArray, List.map_cons, List.map_nil, hs, hx, hr]
    exact hK _ _ hfin
end Go.Fmt
