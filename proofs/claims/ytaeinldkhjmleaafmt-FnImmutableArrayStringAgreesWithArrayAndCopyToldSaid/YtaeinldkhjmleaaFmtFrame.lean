/- The frame of a law's row, once for all laws of the seat: a walk that returns true and changes nothing that was there gives the row's condition behind the call. No condition of its own. -/
import Derived.WalkKit
import Derived.ProofKit
import Derived.OpenShut
import Derived.OpenVars
import Derived.ChangeOld
import Derived.Below
import Derived.LaidMore
import Derived.Stop.Joined
import Derived.Stop.LaidErr
import Derived.Deep.DeepHandedRow
import Derived.SizedLaws
import Derived.Deep.DeepWitnessRowRef
namespace Go.LawFrame
open Go.ChangeShapes Go.WideShapes Go.ChangeAt Go.RowKit

def rowedAll (P : Program) (ts : List TypeId) : Bool := ts.all fun t => P.readableRec t && decide (t < P.types.size)

theorem below_trodAll {H : Type} {enc : TypeId × Value → H} {P : Program} (hl : laidOutB P = true) {W W' : World} (hb : Below W.heap.size W W') :
    ∀ {ts : List TypeId} {vs : List Value} {ds : List (DataW H)} {ps : List MemPlace}, rowedAll P ts = true → DataW.TrodAll enc P W 0 (fun _ => true) true ts vs ds ps →
      DataW.TrodAll enc P W' 0 (fun b => decide (b < W.heap.size)) true ts vs ds ps
  | [], [], [], _, _, h => h
  | [], _ :: _, _, _, _, h => h.elim
  | [], [], _ :: _, _, _, h => h.elim
  | _ :: _, [], _, _, _, h => h.elim
  | _ :: _, _ :: _, [], _, _, h => h.elim
  | t :: ts, v :: vs, d :: ds, ps, hr, h => by
    obtain ⟨p, q, h1, h2, e⟩ := h
    simp only [rowedAll, List.all_cons, Bool.and_eq_true] at hr
    have hlt : ∀ x ∈ p, x.block < W.heap.size := by obtain ⟨m, hm⟩ := h1; exact DataW.trod_lt m _ _ _ hm
    exact ⟨p, q, Below.trod hl hr.1.1 (by simpa using hr.1.2) h1 hb hlt, below_trodAll hl hb (by simpa [rowedAll] using hr.2) h2, e⟩

/-- THE ROW's CONDITION BEHIND THE CALL, for a law of whatever parameters. -/
theorem law_post {H : Type} {enc : TypeId × Value → H} {P : Program} {fn : Func} {s : ChangeSpec} {W W' : World} {args : Array Value} {ds gs : List (DataW H)} {before : List MemPlace} {tb : TypeId}
    (hl : laidOutB P = true) (hp : rowedAll P fn.params.toList = true) (hv : varsRowed P s.vars = true) (hr : fn.resultTypes = #[tb]) (ht : P.underlying tb = some .bool)
    (hW : DataW.Whole enc P fn.params.toList s.vars false W args.toList ds gs before) (hs : s.fn H (ds ++ gs) = { results := [.lit (.bool true)], args := ds, vars := gs })
    (hb : Below W.heap.size W W') : s.post enc P fn false true false false W args (.bool true) W' := by
  have hW0 := hW
  obtain ⟨p, q, hA, hV, rfl, _, _⟩ := hW
  refine ⟨ds, gs, p ++ q, [], p, q, hW0, ?_, ?_, ?_, hb.frame _, fun h => by cases h⟩
  · rw [hs, hr]
    exact trodAll_mk1 (shut_bool ht _)
  · rw [hs]
    exact below_trodAll hl hb hp hA
  · rw [hs]
    exact Below.trodVars hl hb hv hV

theorem preRow_of_run {H : Type} {enc : TypeId × Value → H} {P : Program} {f : Func} {s : OpenSpec} {conds : List PathCond} {apart : Bool} {laid : List (String × DataW Unit)} {w : World} {args : Array Value} (fuel : Nat)
    (h : (match DataW.whole enc P w f.params.toList s.vars apart args.toList fuel with
      | some x => conds.all (PathCond.test P ⟨f.params.toList, x.1, s.bare.plain.varTypes P, x.2.1⟩) && (match s.cond with | some k => k H (x.1 ++ x.2.1) | none => true)
      | none => false) = true)
    (hsz : s.bare.sizedB enc P f apart w args fuel = true) (hl : laidMetH P laid w) : s.preRow enc P f conds apart laid w args := by
  cases hx : DataW.whole enc P w f.params.toList s.vars apart args.toList fuel with
  | none => rw [hx] at h; cases h
  | some x =>
    rw [hx] at h
    simp only [Bool.and_eq_true] at h
    exact OpenSpec.preRow_of_cond fuel hx h.1 (fun k hk => by have := h.2; rw [hk] at this; exact this) hsz hl

/-- What a listed variable of an integer type holds. -/
theorem laid_int {P : Program} {W : World} {laid : List (String × DataW Unit)} {n : String} {k : IntKind} {z : Int} {g t : Nat} (h : laidMet P laid W) (hm : (n, .lit (.int k z)) ∈ laid)
    (hg : P.globalNamed n = some g) (ht : (P.globals[g]?).map (·.type) = some t) (hu : P.underlying t = some (.int k)) : W.cell? ⟨g, 0, none⟩ = some (.int k z) := by
  induction laid with
  | nil => cases hm
  | cons x r ih =>
    rcases List.mem_cons.1 hm with e | e
    · subst e
      obtain ⟨ps, ⟨g0, t0, cs0, f0, p0, q0, hg0, ht0, hv0, hd0, _, _⟩, _, _⟩ := h
      obtain rfl := Option.some.inj (hg.symm.trans hg0)
      obtain rfl := Option.some.inj (ht.symm.trans ht0)
      obtain ⟨z', e1, e2, _⟩ := DataW.trod_int hu hd0
      have hz : z' = z := by simpa using (congrArg Prod.fst e2).symm
      subst hz
      have := World.var?_cell hg0 hv0 0
      rw [Array.eq_one_of_toList e1] at this
      simpa using this
    · exact ih (laidMet.tail h) e

theorem vars_length {H : Type} {enc : TypeId × Value → H} {P : Program} {w : World} {sp : Nat → Bool} : ∀ {ns : List String} {gs : List (DataW H)} {ps : List MemPlace}, DataW.TrodVars enc P w sp ns gs ps → gs.length = ns.length
  | [], [], _, _ => rfl
  | [], _ :: _, _, h => h.elim
  | _ :: _, [], _, h => h.elim
  | _ :: ns, _ :: gs, _, h => by
    obtain ⟨_, _, _, _, _, q, _, _, _, _, hs, _⟩ := h
    simp [vars_length hs]

theorem met_nil (P : Program) (w : World) : laidMetH P [] w := by
  rw [MakeChecks.laidMetH_plain _ _ _ rfl]
  exact ⟨[], rfl, List.nodup_nil, fun b off h => by cases h⟩

/-- What the walk is told of a slice of integers that came in: it is nil, or it leads to a row of 'cap' cells, the numbers 'zs' (the first 'len' are its elements, the rest its spare room), each fitting its kind; 'bytes' for each cell, and all of them within the reach. -/
def IsRow (k : IntKind) (bytes : Nat) (w : World) (a : Option Addr) (len cap : Nat) (zs : List Int) : Prop :=
  (a = none ∧ len = 0 ∧ cap = 0 ∧ zs = []) ∨
  ∃ x, a = some x ∧ len ≤ cap ∧ cap * bytes ≤ 140737488351232 ∧ zs.length = cap ∧ (∀ i, i < zs.length → w.cell? (x.add i) = some (.int k (zs.getD i 0))) ∧ ∀ n ∈ zs, (Lit.int k n).wf = true

theorem isRow_of {H : Type} {enc : TypeId × Value → H} {P : Program} {W : World} {t e : TypeId} {k : IntKind} {a : Option Addr} {len cap bytes : Nat} {d : DataW H} {ps : List MemPlace} {ts : List TypeId} {ds : List (DataW H)} {j : Nat}
    (ht : P.underlying t = some (.slice e)) (he : P.underlying e = some (.int k)) (hc : P.cellsOf e = 1) (hby : P.bytesOf e = bytes) (h : DataW.Trod enc P W 0 (fun _ => true) true t (.slice a len cap) d ps)
    (hsz : (DataW.weightsEach P ts ds).all (· ≤ reachBytes) = true) (hj : ts[j]? = some t) (hd : ds[j]? = some d) : ∃ zs, IsRow k bytes W a len cap zs := by
  obtain ⟨fuel, hf⟩ := h
  rcases open_ints ht he hc hf with ⟨hcs, _⟩ | ⟨x, l, c, zs, hcs, _, hl, hm, hz, hx, hcell, hwz⟩
  · simp [Value.cells] at hcs
    obtain ⟨rfl, rfl, rfl⟩ := hcs
    exact ⟨[], .inl ⟨rfl, rfl, rfl, rfl⟩⟩
  · simp [Value.cells] at hcs
    obtain ⟨rfl, rfl, rfl⟩ := hcs
    have hdd := congrArg Prod.fst hx
    simp only at hdd
    have hw := sized_slice hsz hj (by rw [hd, hdd]) ht
    have hz' : zs.length = cap := by simpa using hz
    refine ⟨zs, .inr ⟨_, rfl, hl, ?_, hz', hcell, hwz⟩⟩
    have e1 : (lits (H := H) k (List.take len zs)).length + (lits (H := H) k (List.drop len zs)).length = cap := by
      simp [lits]; omega
    rw [e1, hby] at hw
    exact hw
end Go.LawFrame
